import JvmDerived
import JvmDerived.Pilot.@@N@@Statement
import JvmDerived.Pilot.@@N@@Code
set_option linter.unusedVariables false
set_option linter.unusedSimpArgs false
namespace Jvm.Pilot.@@N@@
open Jvm Jvm.ClassFile Sem Op Lib Jvm.Free Jvm.Stand Jvm.LawKit Jvm.RoadKit Bundle Jvm.Pilot.@@N@@.Jvm.D
section Own
variable {p : Program} {l : Launch} {e : Env} {R : Room} {s : State} {m : MethodId} {args : Array Value} {below : List Frame} {meth : Method} {c : Code} {bytes : ByteArray} {mx : Nat} {rt : Option FieldType} {own nm : String} {Z : State} {Q : Option Value → Heap → Prop} {pc : Nat} {ls : Array Slot} {st : List Value} {h : Heap} {cs sl : Nat} {a0 : Array Value}
/-- from A the invocation comes back, and what it leaves is as Q says; nothing old is written -/
def own_G (p : Program) (e : Env) (s : State) (below : List Frame) (Z : State) (Q : Option Value → Heap → Prop) (cs sl : Nat) (A : State) : Prop :=
  ∃ s₂ o, Steps p.tables e below A s₂ ∧ s₂.status = .running ∧ Ended s₂ below o ∧ ∃ v L, o = .returned v ∧ (Q v s₂.heap ∧ Fr Z.heap.size L ∧ Old Z Z.heap.size s₂.heap) ∧ FrameEnd s o s₂ L cs sl
theorem own_go {A B : State} (f : ∀ t, Steps p.tables e below B t → Steps p.tables e below A t) (k : own_G p e s below Z Q cs sl B) : own_G p e s below Z Q cs sl A := by
  obtain ⟨t, o, h1, h2⟩ := k
  exact ⟨t, o, f t h1, h2⟩
/-- the run, wherever it stands in this body with this pc, these locals, this stack and this heap, comes back as Q says -/
def own_K (p : Program) (l : Launch) (e : Env) (R : Room) (s : State) (m : MethodId) (args : Array Value) (below : List Frame) (meth : Method) (c : Code) (bytes : ByteArray) (mx : Nat) (rt : Option FieldType) (own nm : String) (Z : State) (Q : Option Value → Heap → Prop)
    (pc : Nat) (ls : Array Slot) (st : List Value) (h : Heap) (cs sl : Nat) : Prop :=
  ∀ (T : State) (L : List Loc), p.tables.exec = Jvm.exec → c.code = bytes → c.maxLocals = mx → meth.sig.returnType = rt → meth.locks = false → s.vm.findClass own = some m.cls → meth.name = nm → Z.Warmed39 s.vm →
    Stand p l e R s m args below meth c T L cs sl → T.heap = h → Fr Z.heap.size L → Old Z Z.heap.size h → own_G p e s below Z Q R.cells R.slots (T.setTop (mkF m pc ls st))
/-- a body's contract, asked at the heap h0 -/
def own_Met (l : Launch) (Z : State) (y : MethodName) (bytes : ByteArray) (mx : Nat) (rt : Option FieldType) (ws : List Jvm.Cond) (rm : Room) (as : Array Value) (h0 : Heap) (Q : Option Value → Heap → Prop) : Prop :=
  Old Z Z.heap.size h0 → MetFree l y (head1 (Jvm.Cond.code y bytes mx rt :: ws) rm) (fun a U => a = as ∧ Z.Warmed39 U.vm ∧ U.heap = h0) (fun _ _ _ _ _ => True)
    (fun _ U o U' => ∃ v L, o = .returned v ∧ (Q v U'.heap ∧ Fr Z.heap.size L ∧ Old Z Z.heap.size U'.heap) ∧ FrameEnd U o U' L rm.cells rm.slots)
def own_some (Qv : Value → Heap → Prop) : Option Value → Heap → Prop := fun v h => ∃ x, v = some x ∧ Qv x h
def own_none (Qn : Heap → Prop) : Option Value → Heap → Prop := fun v h => v = none ∧ Qn h
theorem own_met {y : MethodName} {ws : List Jvm.Cond} {rm : Room} {as : Array Value} {h0 : Heap} {ls0 : Array Slot} (pn : plainFor y = true) (hef : ∀ m, entryFrame m as mx = mkF m 0 ls0 [])
    (body : ∀ p e s m below meth c, own_K p l e rm s m as below meth c bytes mx rt y.cls y.name Z Q 0 ls0 [] h0 0 0) : own_Met l Z y bytes mx rt ws rm as h0 Q := by
  intro O
  refine MetFree.of_bodySF pn hisR ?_
  intro p e s m args below meth c s₁ Bd hml0 hP hK
  obtain ⟨rfl, hZ, hh⟩ := hP
  have X0 : Stand p l e rm s m _ below meth c s₁ [] 0 0 := Stand.of_body Bd
  have e0 : s₁.heap = h0 := by rw [← hh, Bd.state]; rfl
  obtain ⟨t, o, h1, h2⟩ := body p e s m below meth c s₁ [] Bd.exec Bd.bytes hml0 Bd.returns Bd.notSynchronized (findClass_of_methodNamed Bd.named) (name_of_methodNamed Bd.named Bd.method).1 hZ X0 e0 (Fr.nil _) O
  exact ⟨t, o, castTop (hef m) h1, h2⟩
theorem own_old (k : Old Z Z.heap.size h → own_K p l e R s m args below meth c bytes mx rt own nm Z Q pc ls st h cs sl) : own_K p l e R s m args below meth c bytes mx rt own nm Z Q pc ls st h cs sl := fun T L a b c d e' f g i j n o q => k q T L a b c d e' f g i j n o q
theorem own_more {cs' sl' : Nat} (h1 : cs ≤ cs') (h2 : sl ≤ sl') (k : own_K p l e R s m args below meth c bytes mx rt own nm Z Q pc ls st h cs' sl') : own_K p l e R s m args below meth c bytes mx rt own nm Z Q pc ls st h cs sl := fun T L a b c d e' f g i X n o q =>
  k T L a b c d e' f g i ⟨X.admits, X.cas, X.clock, X.frames, X.room, X.hears, X.method, X.code, X.here, X.tail, X.warmed, X.limits, X.bytes, X.same.mono h1 h2⟩ n o q
/-- one plain step -/
theorem own_xs {r : Except ClassFile.DecodeError (ClassFile.Instr × Nat)} {pc' : Nat} {ls' : Array Slot} {st' : List Value} (hd : decode bytes pc = r)
    (k : own_K p l e R s m args below meth c bytes mx rt own nm Z Q pc' ls' st' h cs sl)
    (f : ∀ (T t : State), At T m c below → p.tables.exec = Jvm.exec → decode c.code pc = r → Steps p.tables e below (T.setTop (mkF m pc' ls' st')) t → Steps p.tables e below (T.setTop (mkF m pc ls st)) t) : own_K p l e R s m args below meth c bytes mx rt own nm Z Q pc ls st h cs sl := fun T L hx hby hml hrt hlk hown hnm hZ X eT N O =>
  own_go (fun t q => f T t X.here hx (hb hby hd) q) (k T L hx hby hml hrt hlk hown hnm hZ X eT N O)
theorem own_nop {A : Prop} (h : A) : A := h
-- loads and stores
theorem own_iloadN (pc' : Nat) (hp : pc + 1 = pc') {k : Fin 4} {v : Int32} (hd : decode bytes pc = .ok (.iload_n k, 1)) (hl : ls[k.val]? = some (.val (.int v))) (q : own_K p l e R s m args below meth c bytes mx rt own nm Z Q pc' ls (.int v :: st) h cs sl) : own_K p l e R s m args below meth c bytes mx rt own nm Z Q pc ls st h cs sl := by subst hp; exact own_xs hd q (fun T t ha hx hd => XS.iloadN (g := mkF m pc ls st) ha hx rfl hd hl)
theorem own_iload (pc' : Nat) (hp : pc + 2 = pc') {k : Nat} {v : Int32} (hd : decode bytes pc = .ok (.iload k, 2)) (hl : ls[k]? = some (.val (.int v))) (q : own_K p l e R s m args below meth c bytes mx rt own nm Z Q pc' ls (.int v :: st) h cs sl) : own_K p l e R s m args below meth c bytes mx rt own nm Z Q pc ls st h cs sl := by subst hp; exact own_xs hd q (fun T t ha hx hd => XS.iload (g := mkF m pc ls st) ha hx rfl hd hl)
theorem own_lloadN (pc' : Nat) (hp : pc + 1 = pc') {k : Fin 4} {v : Int64} (hd : decode bytes pc = .ok (.lload_n k, 1)) (hl : ls[k.val]? = some (.val (.long v))) (q : own_K p l e R s m args below meth c bytes mx rt own nm Z Q pc' ls (.long v :: st) h cs sl) : own_K p l e R s m args below meth c bytes mx rt own nm Z Q pc ls st h cs sl := by subst hp; exact own_xs hd q (fun T t ha hx hd => XS.lloadN (g := mkF m pc ls st) ha hx rfl hd hl)
theorem own_lload (pc' : Nat) (hp : pc + 2 = pc') {k : Nat} {v : Int64} (hd : decode bytes pc = .ok (.lload k, 2)) (hl : ls[k]? = some (.val (.long v))) (q : own_K p l e R s m args below meth c bytes mx rt own nm Z Q pc' ls (.long v :: st) h cs sl) : own_K p l e R s m args below meth c bytes mx rt own nm Z Q pc ls st h cs sl := by subst hp; exact own_xs hd q (fun T t ha hx hd => XS.lload (g := mkF m pc ls st) ha hx rfl hd hl)
theorem own_aloadN (pc' : Nat) (hp : pc + 1 = pc') {k : Fin 4} {v : Value} (hd : decode bytes pc = .ok (.aload_n k, 1)) (hl : ls[k.val]? = some (.val v)) (hv : v.isRef = true) (q : own_K p l e R s m args below meth c bytes mx rt own nm Z Q pc' ls (v :: st) h cs sl) : own_K p l e R s m args below meth c bytes mx rt own nm Z Q pc ls st h cs sl := by subst hp; exact own_xs hd q (fun T t ha hx hd => XS.aloadN (g := mkF m pc ls st) ha hx rfl hd hl hv)
theorem own_aload (pc' : Nat) (hp : pc + 2 = pc') {k : Nat} {v : Value} (hd : decode bytes pc = .ok (.aload k, 2)) (hl : ls[k]? = some (.val v)) (hv : v.isRef = true) (q : own_K p l e R s m args below meth c bytes mx rt own nm Z Q pc' ls (v :: st) h cs sl) : own_K p l e R s m args below meth c bytes mx rt own nm Z Q pc ls st h cs sl := by subst hp; exact own_xs hd q (fun T t ha hx hd => XS.aload (g := mkF m pc ls st) ha hx rfl hd hl hv)
theorem own_istoreN (pc' : Nat) (hp : pc + 1 = pc') (ls' : Array Slot) {k : Fin 4} {v : Int32} (hd : decode bytes pc = .ok (.istore_n k, 1)) (hl : storeLocals ls k.val (.int v) = some ls') (q : own_K p l e R s m args below meth c bytes mx rt own nm Z Q pc' ls' st h cs sl) : own_K p l e R s m args below meth c bytes mx rt own nm Z Q pc ls (.int v :: st) h cs sl := by subst hp; exact own_xs hd q (fun T t ha hx hd => XS.istoreN (g := mkF m pc ls (.int v :: st)) ha hx rfl hd rfl hl)
theorem own_istore (pc' : Nat) (hp : pc + 2 = pc') (ls' : Array Slot) {k : Nat} {v : Int32} (hd : decode bytes pc = .ok (.istore k, 2)) (hl : storeLocals ls k (.int v) = some ls') (q : own_K p l e R s m args below meth c bytes mx rt own nm Z Q pc' ls' st h cs sl) : own_K p l e R s m args below meth c bytes mx rt own nm Z Q pc ls (.int v :: st) h cs sl := by subst hp; exact own_xs hd q (fun T t ha hx hd => XS.istore (g := mkF m pc ls (.int v :: st)) ha hx rfl hd rfl hl)
theorem own_lstoreN (pc' : Nat) (hp : pc + 1 = pc') (ls' : Array Slot) {k : Fin 4} {v : Int64} (hd : decode bytes pc = .ok (.lstore_n k, 1)) (hl : storeLocals ls k.val (.long v) = some ls') (q : own_K p l e R s m args below meth c bytes mx rt own nm Z Q pc' ls' st h cs sl) : own_K p l e R s m args below meth c bytes mx rt own nm Z Q pc ls (.long v :: st) h cs sl := by subst hp; exact own_xs hd q (fun T t ha hx hd => XS.lstoreN (g := mkF m pc ls (.long v :: st)) ha hx rfl hd rfl hl)
theorem own_lstore (pc' : Nat) (hp : pc + 2 = pc') (ls' : Array Slot) {k : Nat} {v : Int64} (hd : decode bytes pc = .ok (.lstore k, 2)) (hl : storeLocals ls k (.long v) = some ls') (q : own_K p l e R s m args below meth c bytes mx rt own nm Z Q pc' ls' st h cs sl) : own_K p l e R s m args below meth c bytes mx rt own nm Z Q pc ls (.long v :: st) h cs sl := by subst hp; exact own_xs hd q (fun T t ha hx hd => XS.lstore (g := mkF m pc ls (.long v :: st)) ha hx rfl hd rfl hl)
theorem own_astoreN (pc' : Nat) (hp : pc + 1 = pc') (ls' : Array Slot) {k : Fin 4} {v : Value} (hd : decode bytes pc = .ok (.astore_n k, 1)) (hv : v.isRef = true) (hl : storeLocals ls k.val v = some ls') (q : own_K p l e R s m args below meth c bytes mx rt own nm Z Q pc' ls' st h cs sl) : own_K p l e R s m args below meth c bytes mx rt own nm Z Q pc ls (v :: st) h cs sl := by subst hp; exact own_xs hd q (fun T t ha hx hd => XS.astoreN (g := mkF m pc ls (v :: st)) ha hx rfl hd rfl hv hl)
theorem own_astore (pc' : Nat) (hp : pc + 2 = pc') (ls' : Array Slot) {k : Nat} {v : Value} (hd : decode bytes pc = .ok (.astore k, 2)) (hv : v.isRef = true) (hl : storeLocals ls k v = some ls') (q : own_K p l e R s m args below meth c bytes mx rt own nm Z Q pc' ls' st h cs sl) : own_K p l e R s m args below meth c bytes mx rt own nm Z Q pc ls (v :: st) h cs sl := by subst hp; exact own_xs hd q (fun T t ha hx hd => XS.astore (g := mkF m pc ls (v :: st)) ha hx rfl hd rfl hv hl)
theorem own_iinc (pc' : Nat) (hp : pc + 3 = pc') (ls' : Array Slot) {k : Nat} {i : Int} {x : Int32} (v : Int32) (hd : decode bytes pc = .ok (.iinc k i, 3)) (hv : Int32.ofInt i = v) (hl : ls[k]? = some (.val (.int x))) (hl' : storeLocals ls k (.int (x + v)) = some ls') (q : own_K p l e R s m args below meth c bytes mx rt own nm Z Q pc' ls' st h cs sl) : own_K p l e R s m args below meth c bytes mx rt own nm Z Q pc ls st h cs sl := by subst hp; subst hv; exact own_xs hd q (fun T t ha hx hd => XS.iinc (g := mkF m pc ls st) ha hx rfl hd hl hl')
-- constants
theorem own_iconst (pc' : Nat) (hp : pc + 1 = pc') (v : Int32) {i : Int} (hd : decode bytes pc = .ok (.iconst i, 1)) (hv : Int32.ofInt i = v) (q : own_K p l e R s m args below meth c bytes mx rt own nm Z Q pc' ls (.int v :: st) h cs sl) : own_K p l e R s m args below meth c bytes mx rt own nm Z Q pc ls st h cs sl := by subst hp; subst hv; exact own_xs hd q (fun T t ha hx hd => XS.iconst (g := mkF m pc ls st) ha hx rfl hd)
theorem own_bipush (pc' : Nat) (hp : pc + 2 = pc') (v : Int32) {i : Int} (hd : decode bytes pc = .ok (.bipush i, 2)) (hv : (Int8.ofInt i).toInt32 = v) (q : own_K p l e R s m args below meth c bytes mx rt own nm Z Q pc' ls (.int v :: st) h cs sl) : own_K p l e R s m args below meth c bytes mx rt own nm Z Q pc ls st h cs sl := by subst hp; subst hv; exact own_xs hd q (fun T t ha hx hd => XS.bipush (g := mkF m pc ls st) ha hx rfl hd)
theorem own_sipush (pc' : Nat) (hp : pc + 3 = pc') (v : Int32) {i : Int} (hd : decode bytes pc = .ok (.sipush i, 3)) (hv : (Int16.ofInt i).toInt32 = v) (q : own_K p l e R s m args below meth c bytes mx rt own nm Z Q pc' ls (.int v :: st) h cs sl) : own_K p l e R s m args below meth c bytes mx rt own nm Z Q pc ls st h cs sl := by subst hp; subst hv; exact own_xs hd q (fun T t ha hx hd => XS.sipush (g := mkF m pc ls st) ha hx rfl hd)
theorem own_lconst (pc' : Nat) (hp : pc + 1 = pc') (v : Int64) {i : Fin 2} (hd : decode bytes pc = .ok (.lconst i, 1)) (hv : Int64.ofNat i = v) (q : own_K p l e R s m args below meth c bytes mx rt own nm Z Q pc' ls (.long v :: st) h cs sl) : own_K p l e R s m args below meth c bytes mx rt own nm Z Q pc ls st h cs sl := by subst hp; subst hv; exact own_xs hd q (fun T t ha hx hd => XT.lconst (g := mkF m pc ls st) ha hx rfl hd)
theorem own_aconstNull (pc' : Nat) (hp : pc + 1 = pc') (hd : decode bytes pc = .ok (.aconst_null, 1)) (q : own_K p l e R s m args below meth c bytes mx rt own nm Z Q pc' ls (.null :: st) h cs sl) : own_K p l e R s m args below meth c bytes mx rt own nm Z Q pc ls st h cs sl := by subst hp; exact own_xs hd q (fun T t ha hx hd => XS.aconstNull (g := mkF m pc ls st) ha hx rfl hd)
theorem own_ldcInt (pc' : Nat) (hp : pc + 2 = pc') {v : Int32} {index : Nat} (w : (Jvm.Cond.constant own index v).before a0 Z = true) (hd : decode bytes pc = .ok (.ldc index, 2)) (q : own_K p l e R s m args below meth c bytes mx rt own nm Z Q pc' ls (.int v :: st) h cs sl) : own_K p l e R s m args below meth c bytes mx rt own nm Z Q pc ls st h cs sl := fun T L hx hby hml hrt hlk hown hnm hZ X eT N O => by
  subst hp; exact own_go (X.ldcInt hx hown (mvT hZ w) (g := mkF m pc ls st) rfl (hb hby hd)) (q T L hx hby hml hrt hlk hown hnm hZ X eT N O)
theorem own_ldc2Long (pc' : Nat) (hp : pc + 3 = pc') {v : Int64} {index : Nat} (w : (Jvm.Cond.constantLong own index v).before a0 Z = true) (hd : decode bytes pc = .ok (.ldc2_w index, 3)) (q : own_K p l e R s m args below meth c bytes mx rt own nm Z Q pc' ls (.long v :: st) h cs sl) : own_K p l e R s m args below meth c bytes mx rt own nm Z Q pc ls st h cs sl := fun T L hx hby hml hrt hlk hown hnm hZ X eT N O => by
  subst hp; exact own_go (X.ldc2Long hx hown (mvT hZ w) (g := mkF m pc ls st) rfl (hb hby hd)) (q T L hx hby hml hrt hlk hown hnm hZ X eT N O)
theorem own_ldcFloat (pc' : Nat) (hp : pc + 2 = pc') {b : UInt32} {index : Nat} (w : (Jvm.Cond.constantFloat own index b).before a0 Z = true) (hd : decode bytes pc = .ok (.ldc index, 2)) (q : own_K p l e R s m args below meth c bytes mx rt own nm Z Q pc' ls (.float b :: st) h cs sl) : own_K p l e R s m args below meth c bytes mx rt own nm Z Q pc ls st h cs sl := fun T L hx hby hml hrt hlk hown hnm hZ X eT N O => by
  subst hp; exact own_go (X.ldcFloatC hx hown (mvT hZ w) (g := mkF m pc ls st) rfl (hb hby hd)) (q T L hx hby hml hrt hlk hown hnm hZ X eT N O)
-- arithmetic
theorem own_iadd (pc' : Nat) (hp : pc + 1 = pc') {x y : Int32} (hd : decode bytes pc = .ok (.iadd, 1)) (q : own_K p l e R s m args below meth c bytes mx rt own nm Z Q pc' ls (.int (x + y) :: st) h cs sl) : own_K p l e R s m args below meth c bytes mx rt own nm Z Q pc ls (.int y :: .int x :: st) h cs sl := by subst hp; exact own_xs hd q (fun T t ha hx hd => XS.iadd (g := mkF m pc ls (.int y :: .int x :: st)) ha hx rfl hd rfl)
theorem own_isub (pc' : Nat) (hp : pc + 1 = pc') {x y : Int32} (hd : decode bytes pc = .ok (.isub, 1)) (q : own_K p l e R s m args below meth c bytes mx rt own nm Z Q pc' ls (.int (x - y) :: st) h cs sl) : own_K p l e R s m args below meth c bytes mx rt own nm Z Q pc ls (.int y :: .int x :: st) h cs sl := by subst hp; exact own_xs hd q (fun T t ha hx hd => XS.isub (g := mkF m pc ls (.int y :: .int x :: st)) ha hx rfl hd rfl)
theorem own_imul (pc' : Nat) (hp : pc + 1 = pc') {x y : Int32} (hd : decode bytes pc = .ok (.imul, 1)) (q : own_K p l e R s m args below meth c bytes mx rt own nm Z Q pc' ls (.int (x * y) :: st) h cs sl) : own_K p l e R s m args below meth c bytes mx rt own nm Z Q pc ls (.int y :: .int x :: st) h cs sl := by subst hp; exact own_xs hd q (fun T t ha hx hd => XS.imul (g := mkF m pc ls (.int y :: .int x :: st)) ha hx rfl hd rfl)
theorem own_iand (pc' : Nat) (hp : pc + 1 = pc') {x y : Int32} (hd : decode bytes pc = .ok (.iand, 1)) (q : own_K p l e R s m args below meth c bytes mx rt own nm Z Q pc' ls (.int (x &&& y) :: st) h cs sl) : own_K p l e R s m args below meth c bytes mx rt own nm Z Q pc ls (.int y :: .int x :: st) h cs sl := by subst hp; exact own_xs hd q (fun T t ha hx hd => XS.iand (g := mkF m pc ls (.int y :: .int x :: st)) ha hx rfl hd rfl)
theorem own_ior (pc' : Nat) (hp : pc + 1 = pc') {x y : Int32} (hd : decode bytes pc = .ok (.ior, 1)) (q : own_K p l e R s m args below meth c bytes mx rt own nm Z Q pc' ls (.int (x ||| y) :: st) h cs sl) : own_K p l e R s m args below meth c bytes mx rt own nm Z Q pc ls (.int y :: .int x :: st) h cs sl := by subst hp; exact own_xs hd q (fun T t ha hx hd => XS.ior (g := mkF m pc ls (.int y :: .int x :: st)) ha hx rfl hd rfl)
theorem own_ixor (pc' : Nat) (hp : pc + 1 = pc') {x y : Int32} (hd : decode bytes pc = .ok (.ixor, 1)) (q : own_K p l e R s m args below meth c bytes mx rt own nm Z Q pc' ls (.int (x ^^^ y) :: st) h cs sl) : own_K p l e R s m args below meth c bytes mx rt own nm Z Q pc ls (.int y :: .int x :: st) h cs sl := by subst hp; exact own_xs hd q (fun T t ha hx hd => XS.ixor (g := mkF m pc ls (.int y :: .int x :: st)) ha hx rfl hd rfl)
theorem own_idiv (pc' : Nat) (hp : pc + 1 = pc') {x y : Int32} (hd : decode bytes pc = .ok (.idiv, 1)) (hy : y ≠ 0) (q : own_K p l e R s m args below meth c bytes mx rt own nm Z Q pc' ls (.int (x / y) :: st) h cs sl) : own_K p l e R s m args below meth c bytes mx rt own nm Z Q pc ls (.int y :: .int x :: st) h cs sl := by subst hp; exact own_xs hd q (fun T t ha hx hd => XS.idiv (g := mkF m pc ls (.int y :: .int x :: st)) ha hx rfl hd rfl hy)
theorem own_irem (pc' : Nat) (hp : pc + 1 = pc') {x y : Int32} (hd : decode bytes pc = .ok (.irem, 1)) (hy : y ≠ 0) (q : own_K p l e R s m args below meth c bytes mx rt own nm Z Q pc' ls (.int (x % y) :: st) h cs sl) : own_K p l e R s m args below meth c bytes mx rt own nm Z Q pc ls (.int y :: .int x :: st) h cs sl := fun T L hx hby hml hrt hlk hown hnm hZ X eT N O => by
  subst hp; exact own_go (fun t k => iremM (g := mkF m pc ls (.int y :: .int x :: st)) X hx rfl (hb hby hd) rfl hy k) (q T L hx hby hml hrt hlk hown hnm hZ X eT N O)
theorem own_ineg (pc' : Nat) (hp : pc + 1 = pc') {x : Int32} (hd : decode bytes pc = .ok (.ineg, 1)) (q : own_K p l e R s m args below meth c bytes mx rt own nm Z Q pc' ls (.int (-x) :: st) h cs sl) : own_K p l e R s m args below meth c bytes mx rt own nm Z Q pc ls (.int x :: st) h cs sl := by subst hp; exact own_xs hd q (fun T t ha hx hd => XS.ineg (g := mkF m pc ls (.int x :: st)) ha hx rfl hd rfl)
theorem own_ishl (pc' : Nat) (hp : pc + 1 = pc') {x y : Int32} (hd : decode bytes pc = .ok (.ishl, 1)) (q : own_K p l e R s m args below meth c bytes mx rt own nm Z Q pc' ls (.int (x <<< (y &&& 31)) :: st) h cs sl) : own_K p l e R s m args below meth c bytes mx rt own nm Z Q pc ls (.int y :: .int x :: st) h cs sl := by subst hp; exact own_xs hd q (fun T t ha hx hd => XS.ishl (g := mkF m pc ls (.int y :: .int x :: st)) ha hx rfl hd rfl)
theorem own_ishr (pc' : Nat) (hp : pc + 1 = pc') {x y : Int32} (hd : decode bytes pc = .ok (.ishr, 1)) (q : own_K p l e R s m args below meth c bytes mx rt own nm Z Q pc' ls (.int (x >>> (y &&& 31)) :: st) h cs sl) : own_K p l e R s m args below meth c bytes mx rt own nm Z Q pc ls (.int y :: .int x :: st) h cs sl := by subst hp; exact own_xs hd q (fun T t ha hx hd => XS.ishr (g := mkF m pc ls (.int y :: .int x :: st)) ha hx rfl hd rfl)
theorem own_iushr (pc' : Nat) (hp : pc + 1 = pc') {x y : Int32} (hd : decode bytes pc = .ok (.iushr, 1)) (q : own_K p l e R s m args below meth c bytes mx rt own nm Z Q pc' ls (.int ((x.toUInt32 >>> (y &&& 31).toUInt32).toInt32) :: st) h cs sl) : own_K p l e R s m args below meth c bytes mx rt own nm Z Q pc ls (.int y :: .int x :: st) h cs sl := by subst hp; exact own_xs hd q (fun T t ha hx hd => XS.iushr (g := mkF m pc ls (.int y :: .int x :: st)) ha hx rfl hd rfl)
theorem own_i2l (pc' : Nat) (hp : pc + 1 = pc') {x : Int32} (hd : decode bytes pc = .ok (.i2l, 1)) (q : own_K p l e R s m args below meth c bytes mx rt own nm Z Q pc' ls (.long x.toInt64 :: st) h cs sl) : own_K p l e R s m args below meth c bytes mx rt own nm Z Q pc ls (.int x :: st) h cs sl := by subst hp; exact own_xs hd q (fun T t ha hx hd => XS.i2l (g := mkF m pc ls (.int x :: st)) ha hx rfl hd rfl)
theorem own_l2i (pc' : Nat) (hp : pc + 1 = pc') {x : Int64} (hd : decode bytes pc = .ok (.l2i, 1)) (q : own_K p l e R s m args below meth c bytes mx rt own nm Z Q pc' ls (.int x.toInt32 :: st) h cs sl) : own_K p l e R s m args below meth c bytes mx rt own nm Z Q pc ls (.long x :: st) h cs sl := by subst hp; exact own_xs hd q (fun T t ha hx hd => XS.l2i (g := mkF m pc ls (.long x :: st)) ha hx rfl hd rfl)
theorem own_i2b (pc' : Nat) (hp : pc + 1 = pc') {x : Int32} (hd : decode bytes pc = .ok (.i2b, 1)) (q : own_K p l e R s m args below meth c bytes mx rt own nm Z Q pc' ls (.int x.toInt8.toInt32 :: st) h cs sl) : own_K p l e R s m args below meth c bytes mx rt own nm Z Q pc ls (.int x :: st) h cs sl := by subst hp; exact own_xs hd q (fun T t ha hx hd => XS.i2b (g := mkF m pc ls (.int x :: st)) ha hx rfl hd rfl)
theorem own_i2c (pc' : Nat) (hp : pc + 1 = pc') {x : Int32} (hd : decode bytes pc = .ok (.i2c, 1)) (q : own_K p l e R s m args below meth c bytes mx rt own nm Z Q pc' ls (.int x.toUInt32.toUInt16.toUInt32.toInt32 :: st) h cs sl) : own_K p l e R s m args below meth c bytes mx rt own nm Z Q pc ls (.int x :: st) h cs sl := by subst hp; exact own_xs hd q (fun T t ha hx hd => XS.i2c (g := mkF m pc ls (.int x :: st)) ha hx rfl hd rfl)
theorem own_ladd (pc' : Nat) (hp : pc + 1 = pc') {x y : Int64} (hd : decode bytes pc = .ok (.ladd, 1)) (q : own_K p l e R s m args below meth c bytes mx rt own nm Z Q pc' ls (.long (x + y) :: st) h cs sl) : own_K p l e R s m args below meth c bytes mx rt own nm Z Q pc ls (.long y :: .long x :: st) h cs sl := by subst hp; exact own_xs hd q (fun T t ha hx hd => XS.ladd (g := mkF m pc ls (.long y :: .long x :: st)) ha hx rfl hd rfl)
theorem own_lsub (pc' : Nat) (hp : pc + 1 = pc') {x y : Int64} (hd : decode bytes pc = .ok (.lsub, 1)) (q : own_K p l e R s m args below meth c bytes mx rt own nm Z Q pc' ls (.long (x - y) :: st) h cs sl) : own_K p l e R s m args below meth c bytes mx rt own nm Z Q pc ls (.long y :: .long x :: st) h cs sl := by subst hp; exact own_xs hd q (fun T t ha hx hd => XS.lsub (g := mkF m pc ls (.long y :: .long x :: st)) ha hx rfl hd rfl)
theorem own_lmul (pc' : Nat) (hp : pc + 1 = pc') {x y : Int64} (hd : decode bytes pc = .ok (.lmul, 1)) (q : own_K p l e R s m args below meth c bytes mx rt own nm Z Q pc' ls (.long (x * y) :: st) h cs sl) : own_K p l e R s m args below meth c bytes mx rt own nm Z Q pc ls (.long y :: .long x :: st) h cs sl := by subst hp; exact own_xs hd q (fun T t ha hx hd => XS.lmul (g := mkF m pc ls (.long y :: .long x :: st)) ha hx rfl hd rfl)
theorem own_land (pc' : Nat) (hp : pc + 1 = pc') {x y : Int64} (hd : decode bytes pc = .ok (.land, 1)) (q : own_K p l e R s m args below meth c bytes mx rt own nm Z Q pc' ls (.long (x &&& y) :: st) h cs sl) : own_K p l e R s m args below meth c bytes mx rt own nm Z Q pc ls (.long y :: .long x :: st) h cs sl := by subst hp; exact own_xs hd q (fun T t ha hx hd => XS.land (g := mkF m pc ls (.long y :: .long x :: st)) ha hx rfl hd rfl)
theorem own_lxor (pc' : Nat) (hp : pc + 1 = pc') {x y : Int64} (hd : decode bytes pc = .ok (.lxor, 1)) (q : own_K p l e R s m args below meth c bytes mx rt own nm Z Q pc' ls (.long (x ^^^ y) :: st) h cs sl) : own_K p l e R s m args below meth c bytes mx rt own nm Z Q pc ls (.long y :: .long x :: st) h cs sl := by subst hp; exact own_xs hd q (fun T t ha hx hd => XS.lxor (g := mkF m pc ls (.long y :: .long x :: st)) ha hx rfl hd rfl)
theorem own_ldiv (pc' : Nat) (hp : pc + 1 = pc') {x y : Int64} (hd : decode bytes pc = .ok (.ldiv, 1)) (hy : y ≠ 0) (q : own_K p l e R s m args below meth c bytes mx rt own nm Z Q pc' ls (.long (x / y) :: st) h cs sl) : own_K p l e R s m args below meth c bytes mx rt own nm Z Q pc ls (.long y :: .long x :: st) h cs sl := by subst hp; exact own_xs hd q (fun T t ha hx hd => XS.ldiv (g := mkF m pc ls (.long y :: .long x :: st)) ha hx rfl hd rfl hy)
theorem own_lrem (pc' : Nat) (hp : pc + 1 = pc') {x y : Int64} (hd : decode bytes pc = .ok (.lrem, 1)) (hy : y ≠ 0) (q : own_K p l e R s m args below meth c bytes mx rt own nm Z Q pc' ls (.long (x % y) :: st) h cs sl) : own_K p l e R s m args below meth c bytes mx rt own nm Z Q pc ls (.long y :: .long x :: st) h cs sl := by subst hp; rw [← lrem_mod] at q; exact own_xs hd q (fun T t ha hx hd => XT.lrem (g := mkF m pc ls (.long y :: .long x :: st)) ha hx rfl hd rfl hy)
theorem own_lneg (pc' : Nat) (hp : pc + 1 = pc') {x : Int64} (hd : decode bytes pc = .ok (.lneg, 1)) (q : own_K p l e R s m args below meth c bytes mx rt own nm Z Q pc' ls (.long (-x) :: st) h cs sl) : own_K p l e R s m args below meth c bytes mx rt own nm Z Q pc ls (.long x :: st) h cs sl := by subst hp; exact own_xs hd q (fun T t ha hx hd => XS.lneg (g := mkF m pc ls (.long x :: st)) ha hx rfl hd rfl)
theorem own_lcmp (pc' : Nat) (hp : pc + 1 = pc') {x y : Int64} (hd : decode bytes pc = .ok (.lcmp, 1)) (q : own_K p l e R s m args below meth c bytes mx rt own nm Z Q pc' ls (.int (lcmpW x y) :: st) h cs sl) : own_K p l e R s m args below meth c bytes mx rt own nm Z Q pc ls (.long y :: .long x :: st) h cs sl := by subst hp; exact own_xs hd q (fun T t ha hx hd => XS.lcmp (g := mkF m pc ls (.long y :: .long x :: st)) ha hx rfl hd rfl)
-- the stack
theorem own_dup (pc' : Nat) (hp : pc + 1 = pc') {x : Value} (hd : decode bytes pc = .ok (.dup, 1)) (hc : x.category = 1) (q : own_K p l e R s m args below meth c bytes mx rt own nm Z Q pc' ls (x :: x :: st) h cs sl) : own_K p l e R s m args below meth c bytes mx rt own nm Z Q pc ls (x :: st) h cs sl := by subst hp; exact own_xs hd q (fun T t ha hx hd => XS.dup (g := mkF m pc ls (x :: st)) ha hx rfl hd rfl hc)
theorem own_pop (pc' : Nat) (hp : pc + 1 = pc') {x : Value} (hd : decode bytes pc = .ok (.pop, 1)) (hc : x.category = 1) (q : own_K p l e R s m args below meth c bytes mx rt own nm Z Q pc' ls st h cs sl) : own_K p l e R s m args below meth c bytes mx rt own nm Z Q pc ls (x :: st) h cs sl := by subst hp; exact own_xs hd q (fun T t ha hx hd => XS.pop (g := mkF m pc ls (x :: st)) ha hx rfl hd rfl hc)
theorem own_dupX1 (pc' : Nat) (hp : pc + 1 = pc') {x y : Value} (hd : decode bytes pc = .ok (.dup_x1, 1)) (hc : x.category = 1) (hc' : y.category = 1) (q : own_K p l e R s m args below meth c bytes mx rt own nm Z Q pc' ls (x :: y :: x :: st) h cs sl) : own_K p l e R s m args below meth c bytes mx rt own nm Z Q pc ls (x :: y :: st) h cs sl := by subst hp; exact own_xs hd q (fun T t ha hx hd => XT.dupX1 (g := mkF m pc ls (x :: y :: st)) ha hx rfl hd rfl hc hc')
theorem own_dup2 (pc' : Nat) (hp : pc + 1 = pc') {x y : Value} (hd : decode bytes pc = .ok (.dup2, 1)) (hc : x.category = 1) (hc' : y.category = 1) (q : own_K p l e R s m args below meth c bytes mx rt own nm Z Q pc' ls (x :: y :: x :: y :: st) h cs sl) : own_K p l e R s m args below meth c bytes mx rt own nm Z Q pc ls (x :: y :: st) h cs sl := by subst hp; exact own_xs hd q (fun T t ha hx hd => XT.dup2 (g := mkF m pc ls (x :: y :: st)) ha hx rfl hd rfl hc hc')
-- branches
theorem own_goto (pc' : Nat) {o : Int} (hd : decode bytes pc = .ok (.goto o, 3)) (ho : 0 ≤ (pc : Int) + o) (hp : ((pc : Int) + o).toNat = pc') (q : own_K p l e R s m args below meth c bytes mx rt own nm Z Q pc' ls st h cs sl) : own_K p l e R s m args below meth c bytes mx rt own nm Z Q pc ls st h cs sl := own_xs hd q (fun T t ha hx hd => XS.goto (g := mkF m pc ls st) ha hx rfl rfl hd ho hp)
theorem own_ifYes (pc' : Nat) {cd : ClassFile.Cond} {x : Int32} {o : Int} (hd : decode bytes pc = .ok (.ifCond cd o, 3)) (hc : if_icmp.holds cd x 0 = true) (ho : 0 ≤ (pc : Int) + o) (hp : ((pc : Int) + o).toNat = pc') (q : own_K p l e R s m args below meth c bytes mx rt own nm Z Q pc' ls st h cs sl) : own_K p l e R s m args below meth c bytes mx rt own nm Z Q pc ls (.int x :: st) h cs sl := own_xs hd q (fun T t ha hx hd => XS.ifYes (g := mkF m pc ls (.int x :: st)) ha hx rfl rfl hd rfl ((if0 _ _).trans hc) ho hp)
theorem own_ifNo (pc' : Nat) (hp : pc + 3 = pc') {cd : ClassFile.Cond} {x : Int32} {o : Int} (hd : decode bytes pc = .ok (.ifCond cd o, 3)) (hc : if_icmp.holds cd x 0 = false) (q : own_K p l e R s m args below meth c bytes mx rt own nm Z Q pc' ls st h cs sl) : own_K p l e R s m args below meth c bytes mx rt own nm Z Q pc ls (.int x :: st) h cs sl := by subst hp; exact own_xs hd q (fun T t ha hx hd => XS.ifNo (g := mkF m pc ls (.int x :: st)) ha hx rfl hd rfl ((if0 _ _).trans hc))
theorem own_icmpYes (pc' : Nat) {cd : ClassFile.Cond} {x y : Int32} {o : Int} (hd : decode bytes pc = .ok (.if_icmp cd o, 3)) (hc : if_icmp.holds cd x y = true) (ho : 0 ≤ (pc : Int) + o) (hp : ((pc : Int) + o).toNat = pc') (q : own_K p l e R s m args below meth c bytes mx rt own nm Z Q pc' ls st h cs sl) : own_K p l e R s m args below meth c bytes mx rt own nm Z Q pc ls (.int y :: .int x :: st) h cs sl := own_xs hd q (fun T t ha hx hd => XS.icmpYes (g := mkF m pc ls (.int y :: .int x :: st)) ha hx rfl rfl hd rfl hc ho hp)
theorem own_icmpNo (pc' : Nat) (hp : pc + 3 = pc') {cd : ClassFile.Cond} {x y : Int32} {o : Int} (hd : decode bytes pc = .ok (.if_icmp cd o, 3)) (hc : if_icmp.holds cd x y = false) (q : own_K p l e R s m args below meth c bytes mx rt own nm Z Q pc' ls st h cs sl) : own_K p l e R s m args below meth c bytes mx rt own nm Z Q pc ls (.int y :: .int x :: st) h cs sl := by subst hp; exact own_xs hd q (fun T t ha hx hd => XS.icmpNo (g := mkF m pc ls (.int y :: .int x :: st)) ha hx rfl hd rfl hc)
theorem own_acmpYes (pc' : Nat) {cd : ClassFile.ACond} {x y : Value} {o : Int} (hd : decode bytes pc = .ok (.if_acmp cd o, 3)) (hx' : x.isRef = true) (hy' : y.isRef = true) (hc : XT.acmp cd x y = true) (ho : 0 ≤ (pc : Int) + o) (hp : ((pc : Int) + o).toNat = pc') (q : own_K p l e R s m args below meth c bytes mx rt own nm Z Q pc' ls st h cs sl) : own_K p l e R s m args below meth c bytes mx rt own nm Z Q pc ls (y :: x :: st) h cs sl := own_xs hd q (fun T t ha hx hd => XT.acmpYes (g := mkF m pc ls (y :: x :: st)) ha hx rfl rfl hd rfl hx' hy' hc ho hp)
theorem own_acmpNo (pc' : Nat) (hp : pc + 3 = pc') {cd : ClassFile.ACond} {x y : Value} {o : Int} (hd : decode bytes pc = .ok (.if_acmp cd o, 3)) (hx' : x.isRef = true) (hy' : y.isRef = true) (hc : XT.acmp cd x y = false) (q : own_K p l e R s m args below meth c bytes mx rt own nm Z Q pc' ls st h cs sl) : own_K p l e R s m args below meth c bytes mx rt own nm Z Q pc ls (y :: x :: st) h cs sl := by subst hp; exact own_xs hd q (fun T t ha hx hd => XT.acmpNo (g := mkF m pc ls (y :: x :: st)) ha hx rfl hd rfl hx' hy' hc)
theorem own_teq {x y : Value} (q : x = y) : XT.acmp .eq x y = true ∧ XT.acmp .ne x y = false := ⟨decide_eq_true q, decide_eq_false fun f => f q⟩
theorem own_feq {x y : Value} (q : ¬ x = y) : XT.acmp .eq x y = false ∧ XT.acmp .ne x y = true := ⟨decide_eq_false q, decide_eq_true q⟩
theorem own_ifnullYes (pc' : Nat) {o : Int} (hd : decode bytes pc = .ok (.ifnull o, 3)) (ho : 0 ≤ (pc : Int) + o) (hp : ((pc : Int) + o).toNat = pc') (q : own_K p l e R s m args below meth c bytes mx rt own nm Z Q pc' ls st h cs sl) : own_K p l e R s m args below meth c bytes mx rt own nm Z Q pc ls (.null :: st) h cs sl := own_xs hd q (fun T t ha hx hd => XS.ifnullYes (g := mkF m pc ls (.null :: st)) ha hx rfl rfl hd rfl ho hp)
theorem own_ifnullNo (pc' : Nat) (hp : pc + 3 = pc') {b : Addr} {o : Int} (hd : decode bytes pc = .ok (.ifnull o, 3)) (q : own_K p l e R s m args below meth c bytes mx rt own nm Z Q pc' ls st h cs sl) : own_K p l e R s m args below meth c bytes mx rt own nm Z Q pc ls (.ref b :: st) h cs sl := by subst hp; exact own_xs hd q (fun T t ha hx hd => XS.ifnullNo (g := mkF m pc ls (.ref b :: st)) ha hx rfl hd rfl)
theorem own_ifnonnullYes (pc' : Nat) {b : Addr} {o : Int} (hd : decode bytes pc = .ok (.ifnonnull o, 3)) (ho : 0 ≤ (pc : Int) + o) (hp : ((pc : Int) + o).toNat = pc') (q : own_K p l e R s m args below meth c bytes mx rt own nm Z Q pc' ls st h cs sl) : own_K p l e R s m args below meth c bytes mx rt own nm Z Q pc ls (.ref b :: st) h cs sl := own_xs hd q (fun T t ha hx hd => XT.ifnonnullYes (g := mkF m pc ls (.ref b :: st)) ha hx rfl rfl hd rfl ho hp)
theorem own_ifnonnullNo (pc' : Nat) (hp : pc + 3 = pc') {o : Int} (hd : decode bytes pc = .ok (.ifnonnull o, 3)) (q : own_K p l e R s m args below meth c bytes mx rt own nm Z Q pc' ls st h cs sl) : own_K p l e R s m args below meth c bytes mx rt own nm Z Q pc ls (.null :: st) h cs sl := by subst hp; exact own_xs hd q (fun T t ha hx hd => XT.ifnonnullNo (g := mkF m pc ls (.null :: st)) ha hx rfl hd rfl)
-- fields
theorem own_getF (pc' : Nat) (hp : pc + 3 = pc') {R0 O n d host : String} {index : Nat} (w : (Jvm.Cond.fieldLink own index R0 n d).before a0 Z = true ∨ (Jvm.Cond.fieldLinkNest own index R0 n d host).before a0 Z = true) (via : Via Z R0 O n d) {a : Addr} {v : Value} (F : Fld Z h a O n d v) (hd : decode bytes pc = .ok (.getfield index, 3))
    (q : own_K p l e R s m args below meth c bytes mx rt own nm Z Q pc' ls (v :: st) h cs sl) : own_K p l e R s m args below meth c bytes mx rt own nm Z Q pc ls (.ref a :: st) h cs sl := fun T L hx hby hml hrt hlk hown hnm hZ X eT N O' => by
  subst hp
  obtain ⟨T', X', e', s'⟩ := getF X hx hZ hown w via eT F (g := mkF m pc ls (.ref a :: st)) rfl rfl (hb hby hd)
  exact own_go s' (q T' L hx hby hml hrt hlk hown hnm hZ X' e' N O')
theorem own_getS (pc' : Nat) (hp : pc + 3 = pc') {R0 O n d host : String} {index : Nat} (w : (Jvm.Cond.fieldLink own index R0 n d).before a0 Z = true ∨ (Jvm.Cond.fieldLinkNest own index R0 n d host).before a0 Z = true) (via : Via Z R0 O n d) {v : Value} (F : Sta Z Z.heap O n d v) (hd : decode bytes pc = .ok (.getstatic index, 3))
    (q : own_K p l e R s m args below meth c bytes mx rt own nm Z Q pc' ls (v :: st) h cs sl) : own_K p l e R s m args below meth c bytes mx rt own nm Z Q pc ls st h cs sl := fun T L hx hby hml hrt hlk hown hnm hZ X eT N O' => by
  subst hp
  obtain ⟨T', X', e', s'⟩ := getS2 X hx hZ hown w via eT (F.ext O'.2) (g := mkF m pc ls st) rfl (hb hby hd)
  exact own_go s' (q T' L hx hby hml hrt hlk hown hnm hZ X' e' N O')
theorem own_putF (pc' : Nat) (hp : pc + 3 = pc') {R0 O n d host C : String} {index kk : Nat} {ty : FieldType} (w : (Jvm.Cond.fieldLink own index R0 n d).before a0 Z = true ∨ (Jvm.Cond.fieldLinkNest own index R0 n d host).before a0 Z = true) (via : Via Z R0 O n d) {a : Addr} {v old : Value} (ga : Z.heap.size ≤ a) (F : Fld Z h a O n d old) (E : Exa Z h a C)
    (L0 : (Jvm.Cond.lays C O n d).before a0 Z = true ∨ ((Jvm.Cond.laysFinal C O n d).before a0 Z = true ∧ own = O ∧ nm = "<init>")) (wi : (Jvm.Cond.instantiable C kk).before a0 Z = true) (hty : parseFieldDescriptor d = some ty) (hn : narrow ty v = v) (hf : fits ty v = true) (hd : decode bytes pc = .ok (.putfield index, 3))
    (q : ∀ h', Wr h h' a (Jvm.RoadKit.slotOf Z O n d) v → own_K p l e R s m args below meth c bytes mx rt own nm Z Q pc' ls st h' cs sl) : own_K p l e R s m args below meth c bytes mx rt own nm Z Q pc ls (v :: .ref a :: st) h cs sl := fun T L hx hby hml hrt hlk hown hnm hZ X eT N O' => by
  subst hp
  obtain ⟨T', h', X', e', W', s'⟩ := putF X hx hZ hown w via eT F E (L0.imp id fun u => ⟨u.1, u.2.1, hnm.trans u.2.2⟩) wi hty hn hf (g := mkF m pc ls (v :: .ref a :: st)) rfl rfl (hb hby hd)
  exact own_go s' (q h' W' T' _ hx hby hml hrt hlk hown hnm hZ X' e' (Fr.snoc X' N ga) (O'.wr W' ga))
-- objects and arrays
theorem own_newO (pc' : Nat) (hp : pc + 3 = pc') (cs' sl' : Nat) {C : String} {index n : Nat} (w : (Jvm.Cond.classLink own index C).before a0 Z = true) (wi : (Jvm.Cond.instantiable C n).before a0 Z = true) (wz : (Jvm.Cond.initialized C).before a0 Z = true) (hd : decode bytes pc = .ok (.new index, 3)) (hcs : cs + 1 = cs') (hsl : sl + n = sl') (hc : cs' ≤ R.cells) (hl : sl' ≤ R.slots)
    (q : ∀ h' (a : Addr), a = h.size → Z.heap.size ≤ a → Ext h h' → Exa Z h' a C → (∀ {O nm d : String} {ty : FieldType}, Laid Z a0 C O nm d → parseFieldDescriptor d = some ty → Fld Z h' a O nm d (defaultValue ty)) → own_K p l e R s m args below meth c bytes mx rt own nm Z Q pc' ls (.ref a :: st) h' cs' sl') : own_K p l e R s m args below meth c bytes mx rt own nm Z Q pc ls st h cs sl := fun T L hx hby hml hrt hlk hown hnm hZ X eT N O' => by
  subst hp; subst hcs; subst hsl
  obtain ⟨T', h', X', e', E', A', D', -, s'⟩ := newO X hx hZ hown w wi wz eT (g := mkF m pc ls st) rfl (hb hby hd) hc hl
  exact own_go s' (q h' _ rfl O'.2.1 E' A' D' T' _ hx hby hml hrt hlk hown hnm hZ X' e' N (O'.ext E'))
theorem own_newP (pc' : Nat) (hp : pc + 2 = pc') (cs' sl' cap : Nat) (ad : String) {aty : ArrayType} (had : "[" ++ (newarray.typeOf aty).toString = ad) (w : (Jvm.Cond.arrayClass (newarray.typeOf aty)).before a0 Z = true) (hd : decode bytes pc = .ok (.newarray aty, 2)) {n : Int32} (hn : ¬ n < 0) (hcap : n.toNatClampNeg ≤ cap) (hb' : cap * 8 ≤ 536870912) (hcs : cs + 1 = cs') (hsl : sl + cap = sl') (hc : cs' ≤ R.cells) (hl : sl' ≤ R.slots)
    (q : ∀ h' (a : Addr) k, a = h.size → Z.heap.size ≤ a → Ext h h' → Arv Z h' a k (newarray.typeOf aty) n [] (defaultValue (newarray.typeOf aty)) → Exa Z h' a ad → own_K p l e R s m args below meth c bytes mx rt own nm Z Q pc' ls (.ref a :: st) h' cs' sl') : own_K p l e R s m args below meth c bytes mx rt own nm Z Q pc ls (.int n :: st) h cs sl := fun T L hx hby hml hrt hlk hown hnm hZ X eT N O' => by
  subst hp; subst hcs; subst hsl
  obtain ⟨T', h', cA, X', e', E', A', C', s'⟩ := newPE X hx hZ w eT (g := mkF m pc ls (.int n :: st)) rfl (hb hby hd) rfl hn hcap hb' hc hl had
  exact own_go s' (q h' _ cA rfl O'.2.1 E' (Arv.new A' hn) C' T' _ hx hby hml hrt hlk hown hnm hZ X' e' N (O'.ext E'))
theorem own_newR (pc' : Nat) (hp : pc + 3 = pc') (cs' sl' cap : Nat) {C : String} {index : Nat} (w1 : (Jvm.Cond.classLink own index C).before a0 Z = true) (w2 : (Jvm.Cond.arrayOver (.object C)).before a0 Z = true) (hd : decode bytes pc = .ok (.anewarray index, 3)) {n : Int32} (hn : ¬ n < 0) (hcap : n.toNatClampNeg ≤ cap) (hb' : cap * 8 ≤ 536870912) (hcs : cs + 1 = cs') (hsl : sl + cap = sl') (hc : cs' ≤ R.cells) (hl : sl' ≤ R.slots)
    (q : ∀ h' (a : Addr) k, a = h.size → Z.heap.size ≤ a → Ext h h' → Arv Z h' a k (.object C) n [] .null → Ovr Z k C → own_K p l e R s m args below meth c bytes mx rt own nm Z Q pc' ls (.ref a :: st) h' cs' sl') : own_K p l e R s m args below meth c bytes mx rt own nm Z Q pc ls (.int n :: st) h cs sl := fun T L hx hby hml hrt hlk hown hnm hZ X eT N O' => by
  subst hp; subst hcs; subst hsl
  obtain ⟨T', h', cA, X', e', E', A', V', s'⟩ := newR X hx hZ hown w1 w2 eT (g := mkF m pc ls (.int n :: st)) rfl (hb hby hd) rfl hn hcap hb' hc hl
  exact own_go s' (q h' _ cA rfl O'.2.1 E' (Arv.new A' hn) V' T' _ hx hby hml hrt hlk hown hnm hZ X' e' N (O'.ext E'))
theorem own_initO (pc' : Nat) (hp : pc + 3 = pc') {index : Nat} (w1 : (Jvm.Cond.methodLink own index Lib.objectInit).before a0 Z = true) (w2 : (Jvm.Cond.instanceMethod Lib.objectInit).before a0 Z = true) (w3 : (Jvm.Cond.code Lib.objectInit ⟨#[0xb1]⟩ 1 none).before a0 Z = true) {a : Addr} (hd : decode bytes pc = .ok (.invokespecial index, 3)) (hls : ls.size = mx) (hf : 1 ≤ R.frames) (W : Nat) (hW : (st.map fun v => v.category).sum ≤ W) (hl : W + 12 ≤ R.locals)
    (q : own_K p l e R s m args below meth c bytes mx rt own nm Z Q pc' ls st h cs sl) : own_K p l e R s m args below meth c bytes mx rt own nm Z Q pc ls (.ref a :: st) h cs sl := fun T L hx hby hml hrt hlk hown hnm hZ X eT N O' => by
  subst hp
  obtain ⟨T', X', e', s'⟩ := initO X hx hZ hown w1 w2 w3 eT (g := mkF m pc ls (.ref a :: st)) rfl (hls.trans hml.symm) rfl (hb hby hd) hf (W := W) (by simpa using hW) hl
  exact own_go s' (q T' L hx hby hml hrt hlk hown hnm hZ X' e' N O')
theorem own_alen (pc' : Nat) (hp : pc + 1 = pc') {a : Addr} {cl : Cell} {ty : FieldType} (A : Arr Z h a cl ty) (n : Int32) (hn : cl.slots.size.toInt32 = n) (hd : decode bytes pc = .ok (.arraylength, 1))
    (q : own_K p l e R s m args below meth c bytes mx rt own nm Z Q pc' ls (.int n :: st) h cs sl) : own_K p l e R s m args below meth c bytes mx rt own nm Z Q pc ls (.ref a :: st) h cs sl := fun T L hx hby hml hrt hlk hown hnm hZ X eT N O' => by
  subst hp; subst hn
  exact own_go (X.arraylength hx (by rw [eT]; exact A.1) (State.isArrayOf_alike hZ.alike A.2.1) (g := mkF m pc ls (.ref a :: st)) rfl rfl (hb hby hd)) (q T L hx hby hml hrt hlk hown hnm hZ X eT N O')
theorem own_iaload (pc' : Nat) (hp : pc + 1 = pc') {a : Addr} {cl : Cell} {j : Int32} {v : Value} (A : Arr Z h a cl .int) (hin : ¬ (j < 0 ∨ cl.slots.size ≤ j.toNatClampNeg)) (hv : cl.slots[j.toNatClampNeg]? = some v) (hd : decode bytes pc = .ok (.iaload, 1))
    (q : own_K p l e R s m args below meth c bytes mx rt own nm Z Q pc' ls (v :: st) h cs sl) : own_K p l e R s m args below meth c bytes mx rt own nm Z Q pc ls (.int j :: .ref a :: st) h cs sl := fun T L hx hby hml hrt hlk hown hnm hZ X eT N O' => by
  subst hp
  exact own_go (X.iaload hx (by rw [eT]; exact A.1) (State.isArrayOf_alike hZ.alike A.2.1) A.2.2 hin hv (g := mkF m pc ls (.int j :: .ref a :: st)) rfl rfl (hb hby hd)) (q T L hx hby hml hrt hlk hown hnm hZ X eT N O')
theorem own_laload (pc' : Nat) (hp : pc + 1 = pc') {a : Addr} {cl : Cell} {j : Int32} {v : Value} (A : Arr Z h a cl .long) (hin : ¬ (j < 0 ∨ cl.slots.size ≤ j.toNatClampNeg)) (hv : cl.slots[j.toNatClampNeg]? = some v) (hd : decode bytes pc = .ok (.laload, 1))
    (q : own_K p l e R s m args below meth c bytes mx rt own nm Z Q pc' ls (v :: st) h cs sl) : own_K p l e R s m args below meth c bytes mx rt own nm Z Q pc ls (.int j :: .ref a :: st) h cs sl := fun T L hx hby hml hrt hlk hown hnm hZ X eT N O' => by
  subst hp
  exact own_go (X.laload hx (by rw [eT]; exact A.1) (State.isArrayOf_alike hZ.alike A.2.1) A.2.2 hin hv (g := mkF m pc ls (.int j :: .ref a :: st)) rfl rfl (hb hby hd)) (q T L hx hby hml hrt hlk hown hnm hZ X eT N O')
theorem own_baload (pc' : Nat) (hp : pc + 1 = pc') {a : Addr} {cl : Cell} {j : Int32} {v : Value} (A : Arr Z h a cl .byte) (hin : ¬ (j < 0 ∨ cl.slots.size ≤ j.toNatClampNeg)) (hv : cl.slots[j.toNatClampNeg]? = some v) (hd : decode bytes pc = .ok (.baload, 1))
    (q : own_K p l e R s m args below meth c bytes mx rt own nm Z Q pc' ls (v :: st) h cs sl) : own_K p l e R s m args below meth c bytes mx rt own nm Z Q pc ls (.int j :: .ref a :: st) h cs sl := fun T L hx hby hml hrt hlk hown hnm hZ X eT N O' => by
  subst hp
  exact own_go (X.baloadBytes hx (by rw [eT]; exact A.1) (State.isArrayOf_alike hZ.alike A.2.1) A.2.2 hin hv (g := mkF m pc ls (.int j :: .ref a :: st)) rfl rfl (hb hby hd)) (q T L hx hby hml hrt hlk hown hnm hZ X eT N O')
theorem own_zaload (pc' : Nat) (hp : pc + 1 = pc') {a : Addr} {cl : Cell} {j : Int32} {v : Value} (A : Arr Z h a cl .boolean) (hin : ¬ (j < 0 ∨ cl.slots.size ≤ j.toNatClampNeg)) (hv : cl.slots[j.toNatClampNeg]? = some v) (hd : decode bytes pc = .ok (.baload, 1))
    (q : own_K p l e R s m args below meth c bytes mx rt own nm Z Q pc' ls (v :: st) h cs sl) : own_K p l e R s m args below meth c bytes mx rt own nm Z Q pc ls (.int j :: .ref a :: st) h cs sl := fun T L hx hby hml hrt hlk hown hnm hZ X eT N O' => by
  subst hp
  exact own_go (X.baloadBooleans hx (by rw [eT]; exact A.1) (State.isArrayOf_alike hZ.alike A.2.1) A.2.2 hin hv (g := mkF m pc ls (.int j :: .ref a :: st)) rfl rfl (hb hby hd)) (q T L hx hby hml hrt hlk hown hnm hZ X eT N O')
theorem own_aaload (pc' : Nat) (hp : pc + 1 = pc') {a : Addr} {cl : Cell} {j : Int32} {v : Value} {ty : FieldType} (A : Arr Z h a cl ty) (hty : ty.isReference = true) (hin : ¬ (j < 0 ∨ cl.slots.size ≤ j.toNatClampNeg)) (hv : cl.slots[j.toNatClampNeg]? = some v) (hd : decode bytes pc = .ok (.aaload, 1))
    (q : own_K p l e R s m args below meth c bytes mx rt own nm Z Q pc' ls (v :: st) h cs sl) : own_K p l e R s m args below meth c bytes mx rt own nm Z Q pc ls (.int j :: .ref a :: st) h cs sl := fun T L hx hby hml hrt hlk hown hnm hZ X eT N O' => by
  subst hp
  exact own_go (X.aaload hx (by rw [eT]; exact A.1) (State.isArrayOf_alike hZ.alike A.2.1) hty A.2.2 hin hv (g := mkF m pc ls (.int j :: .ref a :: st)) rfl rfl (hb hby hd)) (q T L hx hby hml hrt hlk hown hnm hZ X eT N O')
theorem own_iastore (pc' : Nat) (hp : pc + 1 = pc') {a : Addr} {cl : Cell} {j x : Int32} (ga : Z.heap.size ≤ a) (A : Arr Z h a cl .int) (hin : ¬ (j < 0 ∨ cl.slots.size ≤ j.toNatClampNeg)) (hd : decode bytes pc = .ok (.iastore, 1))
    (q : ∀ h', Wr h h' a j.toNatClampNeg (.int x) → own_K p l e R s m args below meth c bytes mx rt own nm Z Q pc' ls st h' cs sl) : own_K p l e R s m args below meth c bytes mx rt own nm Z Q pc ls (.int x :: .int j :: .ref a :: st) h cs sl := fun T L hx hby hml hrt hlk hown hnm hZ X eT N O' => by
  subst hp
  obtain ⟨T', h', X', e', W', s'⟩ := stI X hx hZ eT A hin (g := mkF m pc ls (.int x :: .int j :: .ref a :: st)) rfl rfl (hb hby hd)
  exact own_go s' (q h' W' T' _ hx hby hml hrt hlk hown hnm hZ X' e' (Fr.snoc X' N ga) (O'.wr W' ga))
theorem own_lastore (pc' : Nat) (hp : pc + 1 = pc') {a : Addr} {cl : Cell} {j : Int32} {x : Int64} (ga : Z.heap.size ≤ a) (A : Arr Z h a cl .long) (hin : ¬ (j < 0 ∨ cl.slots.size ≤ j.toNatClampNeg)) (hd : decode bytes pc = .ok (.lastore, 1))
    (q : ∀ h', Wr h h' a j.toNatClampNeg (.long x) → own_K p l e R s m args below meth c bytes mx rt own nm Z Q pc' ls st h' cs sl) : own_K p l e R s m args below meth c bytes mx rt own nm Z Q pc ls (.long x :: .int j :: .ref a :: st) h cs sl := fun T L hx hby hml hrt hlk hown hnm hZ X eT N O' => by
  subst hp
  obtain ⟨T', h', X', e', W', s'⟩ := stJ X hx hZ eT A hin (g := mkF m pc ls (.long x :: .int j :: .ref a :: st)) rfl rfl (hb hby hd)
  exact own_go s' (q h' W' T' _ hx hby hml hrt hlk hown hnm hZ X' e' (Fr.snoc X' N ga) (O'.wr W' ga))
theorem own_bastore (pc' : Nat) (hp : pc + 1 = pc') {a : Addr} {cl : Cell} {j x : Int32} (ga : Z.heap.size ≤ a) (A : Arr Z h a cl .byte) (hin : ¬ (j < 0 ∨ cl.slots.size ≤ j.toNatClampNeg)) (hd : decode bytes pc = .ok (.bastore, 1))
    (q : ∀ h', Wr h h' a j.toNatClampNeg (.int (nar .byte x)) → own_K p l e R s m args below meth c bytes mx rt own nm Z Q pc' ls st h' cs sl) : own_K p l e R s m args below meth c bytes mx rt own nm Z Q pc ls (.int x :: .int j :: .ref a :: st) h cs sl := fun T L hx hby hml hrt hlk hown hnm hZ X eT N O' => by
  subst hp
  obtain ⟨T', h', X', e', W', s'⟩ := stB X hx hZ eT A hin (g := mkF m pc ls (.int x :: .int j :: .ref a :: st)) rfl rfl (hb hby hd)
  exact own_go s' (q h' W' T' _ hx hby hml hrt hlk hown hnm hZ X' e' (Fr.snoc X' N ga) (O'.wr W' ga))
theorem own_aastore (pc' : Nat) (hp : pc + 1 = pc') {a : Addr} {cl : Cell} {j : Int32} {v : Value} {ty : FieldType} (ga : Z.heap.size ≤ a) (A : Arr Z h a cl ty) (hty : ty.isReference = true) (F : Sto Z h a v) (hin : ¬ (j < 0 ∨ cl.slots.size ≤ j.toNatClampNeg)) (hd : decode bytes pc = .ok (.aastore, 1))
    (q : ∀ h', Wr h h' a j.toNatClampNeg v → own_K p l e R s m args below meth c bytes mx rt own nm Z Q pc' ls st h' cs sl) : own_K p l e R s m args below meth c bytes mx rt own nm Z Q pc ls (v :: .int j :: .ref a :: st) h cs sl := fun T L hx hby hml hrt hlk hown hnm hZ X eT N O' => by
  subst hp
  obtain ⟨T', h', X', e', W', s'⟩ := stR X hx hZ eT A hin hty F (g := mkF m pc ls (v :: .int j :: .ref a :: st)) rfl rfl (hb hby hd)
  exact own_go s' (q h' W' T' _ hx hby hml hrt hlk hown hnm hZ X' e' (Fr.snoc X' N ga) (O'.wr W' ga))
theorem own_cast (pc' : Nat) (hp : pc + 3 = pc') {C : String} {index : Nat} (w : (Jvm.Cond.classLink own index C).before a0 Z = true) {a : Addr} (F : Ins Z h a C true) (hd : decode bytes pc = .ok (.checkcast index, 3))
    (q : own_K p l e R s m args below meth c bytes mx rt own nm Z Q pc' ls (.ref a :: st) h cs sl) : own_K p l e R s m args below meth c bytes mx rt own nm Z Q pc ls (.ref a :: st) h cs sl := fun T L hx hby hml hrt hlk hown hnm hZ X eT N O' => by
  subst hp
  obtain ⟨T', X', e', s'⟩ := castY X hx hZ hown w eT F (g := mkF m pc ls (.ref a :: st)) rfl rfl (hb hby hd)
  exact own_go s' (q T' L hx hby hml hrt hlk hown hnm hZ X' e' N O')
theorem own_castNull (pc' : Nat) (hp : pc + 3 = pc') {index : Nat} (hd : decode bytes pc = .ok (.checkcast index, 3))
    (q : own_K p l e R s m args below meth c bytes mx rt own nm Z Q pc' ls (.null :: st) h cs sl) : own_K p l e R s m args below meth c bytes mx rt own nm Z Q pc ls (.null :: st) h cs sl := fun T L hx hby hml hrt hlk hown hnm hZ X eT N O' => by
  subst hp
  exact own_go (X.checkcastNull hx (g := mkF m pc ls (.null :: st)) rfl rfl (hb hby hd)) (q T L hx hby hml hrt hlk hown hnm hZ X eT N O')
theorem own_clone (pc' : Nat) (hp : pc + 3 = pc') (cs' sl' cap W : Nat) {ad : String} {index : Nat} {k : ClassId} {ty : FieldType} {z : Int32} {vs : List Value} {dv : Value} {a : Addr}
    (w1 : (Jvm.Cond.methodLink own index ⟨ad, "clone", "()Ljava/lang/Object;"⟩).before a0 Z = true) (w2 : (Jvm.Cond.sameMethod ad "java/lang/Object" "clone" "()Ljava/lang/Object;").before a0 Z = true) (w3 : (Jvm.Cond.native ⟨"java/lang/Object", "clone", "()Ljava/lang/Object;"⟩).before a0 Z = true)
    (w4 : (Jvm.Cond.instanceMethod ⟨"java/lang/Object", "clone", "()Ljava/lang/Object;"⟩).before a0 Z = true) (w5 : (Jvm.Cond.selects ad ⟨ad, "clone", "()Ljava/lang/Object;"⟩ ⟨"java/lang/Object", "clone", "()Ljava/lang/Object;"⟩).before a0 Z = true) (w6 : (Jvm.Cond.castable ad "java/lang/Cloneable").before a0 Z = true)
    (F : Arv Z h a k ty z vs dv) (E : Exa Z h a ad) (hcap : z.toNatClampNeg ≤ cap) (hd : decode bytes pc = .ok (.invokevirtual index, 3)) (hls : ls.size = mx) (hf : 1 ≤ R.frames) (hW : (st.map fun v => v.category).sum = W) (hl : W + 14 ≤ R.locals) (hcs : cs + 1 = cs') (hsl : sl + cap = sl') (hc : cs' ≤ R.cells) (hs : sl' ≤ R.slots)
    (q : ∀ h' (b : Addr), b = h.size → Z.heap.size ≤ b → Ext h h' → Arv Z h' b k ty z vs dv → Exa Z h' b ad → own_K p l e R s m args below meth c bytes mx rt own nm Z Q pc' ls (.ref b :: st) h' cs' sl') : own_K p l e R s m args below meth c bytes mx rt own nm Z Q pc ls (.ref a :: st) h cs sl := fun T L hx hby hml hrt hlk hown hnm hZ X eT N O' => by
  subst hp; subst hcs; subst hsl
  obtain ⟨T', h', X', e', E', A', C', s'⟩ := cloneH X hx hZ hown w1 w2 w3 w4 w5 w6 eT F.arh E (g := mkF m pc ls (.ref a :: st)) rfl (hls.trans hml.symm) rfl (hb hby hd) hf (W := W) (by show 2 * 0 + _ ≤ _; omega) hl hcap hc hs
  exact own_go s' (q h' _ rfl O'.2.1 E' A' C' T' _ hx hby hml hrt hlk hown hnm hZ X' e' N (O'.ext E'))
-- leaving
theorem own_out {t : FieldType} {v : Value} {pc : Nat} {T : State} {L : List Loc} (X : Stand p l e R s m args below meth c T L cs sl) (hrt : meth.sig.returnType = some t) (hlk : meth.locks = false)
    (f : ∀ fs, (∀ (f : JFrame) (acts : List Action), f.method = m → f.locked = none → f.entered = [] → (doReturn e (T.setTop f) acts (some v)).1 = T.setFrames fs) → Steps p.tables e below (T.setTop (mkF m pc ls st)) (T.setFrames fs)) (hc : cs ≤ R.cells) (hs : sl ≤ R.slots) (N : Fr Z.heap.size L) (O : Old Z Z.heap.size T.heap) (q : Q (some v) T.heap) :
    own_G p e s below Z Q R.cells R.slots (T.setTop (mkF m pc ls st)) := by
  obtain ⟨fs, hr, hrun, hended, hW, hsame⟩ := X.leave (v := some v) (fun h => by rw [hrt] at h; cases h) hlk
  exact ⟨_, _, f fs hr, hrun, hended, _, _, rfl, ⟨q, N, O⟩, ⟨_, rfl⟩, hW, hsame.mono hc hs⟩
theorem own_retI {v : Int32} (hr : rt = some .int) (hd : decode bytes pc = .ok (.ireturn, 1)) (hc : cs ≤ R.cells) (hs : sl ≤ R.slots) (q : Q (some (.int v)) h) : own_K p l e R s m args below meth c bytes mx rt own nm Z Q pc ls (.int v :: st) h cs sl := fun T L hx hby hml hrt hlk hown hnm hZ X eT N O' => by
  subst eT
  exact own_out X (hrt.trans hr) hlk (fun fs k => retOut X hx (hrt.trans hr) rfl (Or.inl ⟨rfl, Or.inl rfl, _, rfl⟩) (hb hby hd) k) hc hs N O' q
theorem own_retN {v : Int32} {t : FieldType} (hr : rt = some t) (ht : t = .boolean ∨ t = .byte ∨ t = .char ∨ t = .short) (hd : decode bytes pc = .ok (.ireturn, 1)) (hc : cs ≤ R.cells) (hs : sl ≤ R.slots) (q : Q (some (.int (nar t v))) h) : own_K p l e R s m args below meth c bytes mx rt own nm Z Q pc ls (.int v :: st) h cs sl := fun T L hx hby hml hrt hlk hown hnm hZ X eT N O' => by
  subst eT
  exact own_out X (hrt.trans hr) hlk (fun fs k => retN X hx (hrt.trans hr) ht (hb hby hd) k) hc hs N O' q
theorem own_retJ {v : Int64} (hr : rt = some .long) (hd : decode bytes pc = .ok (.lreturn, 1)) (hc : cs ≤ R.cells) (hs : sl ≤ R.slots) (q : Q (some (.long v)) h) : own_K p l e R s m args below meth c bytes mx rt own nm Z Q pc ls (.long v :: st) h cs sl := fun T L hx hby hml hrt hlk hown hnm hZ X eT N O' => by
  subst eT
  exact own_out X (hrt.trans hr) hlk (fun fs k => retOut X hx (hrt.trans hr) rfl (Or.inr (Or.inl ⟨rfl, rfl, _, rfl⟩)) (hb hby hd) k) hc hs N O' q
theorem own_narR {t : FieldType} {v : Value} (ht : t.isReference = true) (hv : v.isRef = true) : narrow t v = v := by
  rcases ref_cases hv with rfl | ⟨_, rfl⟩ <;> cases t <;> first | rfl | cases ht
theorem own_retA {v : Value} {t : FieldType} (hr : rt = some t) (ht : t.isReference = true) (hv : v.isRef = true) (hd : decode bytes pc = .ok (.areturn, 1)) (hc : cs ≤ R.cells) (hs : sl ≤ R.slots) (q : Q (some v) h) : own_K p l e R s m args below meth c bytes mx rt own nm Z Q pc ls (v :: st) h cs sl := fun T L hx hby hml hrt hlk hown hnm hZ X eT N O' => by
  subst eT
  exact own_out X (hrt.trans hr) hlk (fun fs k => retOut X hx (hrt.trans hr) (own_narR ht hv) (Or.inr (Or.inr (Or.inr (Or.inr ⟨rfl, ht, hv⟩)))) (hb hby hd) k) hc hs N O' q
theorem own_ret (hr : rt = none) (hd : decode bytes pc = .ok (.return_, 1)) (hc : cs ≤ R.cells) (hs : sl ≤ R.slots) (q : Q none h) : own_K p l e R s m args below meth c bytes mx rt own nm Z Q pc ls [] h cs sl := fun T L hx hby hml hrt hlk hown hnm hZ X eT N O' => by
  subst eT
  obtain ⟨fs, hr', hrun, hended, hW, hsame⟩ := X.leave (v := none) (fun _ => rfl) hlk
  exact ⟨_, _, X.returnOut hx (hrt.trans hr) (hb hby hd) hr', hrun, hended, _, _, rfl, ⟨q, N, O'⟩, ⟨_, rfl⟩, hW, hsame.mono hc hs⟩
-- calls
theorem own_back {y : MethodName} {b' : ByteArray} {mx' : Nat} {rt' : Option FieldType} {rm' : Room} {as' : Array Value} {Q' : Option Value → Heap → Prop} {W : Nat} (hZ : Z.Warmed39 s.vm) (O : Old Z Z.heap.size h) (hM : own_Met l Z y b' mx' rt' [] rm' as' h Q') (w4 : (Jvm.Cond.code y b' mx' rt').before a0 Z = true) (w3 : (Jvm.Cond.initialized y.cls).before a0 Z = true)
    (hf : rm'.frames + 1 ≤ R.frames) (hl : W + (mx' + 11) + rm'.locals ≤ R.locals) {len : Nat} :
    Back l R p e below s args y len W (fun A a => a = as' ∧ A.U.heap = h ∧ A.cells + rm'.cells ≤ R.cells ∧ A.slots + rm'.slots ≤ R.slots)
      (fun A _ v B => ∃ L, (Q' v B.U.heap ∧ Fr Z.heap.size L ∧ Old Z Z.heap.size B.U.heap) ∧ B.locs = A.locs ++ L ∧ B.cells = A.cells + rm'.cells ∧ B.slots = A.slots + rm'.slots) :=
  backOf (Q := fun v h' L => Q' v h' ∧ Fr Z.heap.size L ∧ Old Z Z.heap.size h') (hM O) hZ w4 w3 hf hl
theorem own_callS (pc' : Nat) (hp : pc + 3 = pc') (cs' sl' W : Nat) (argsL rest : List Value) {index : Nat} {y : MethodName} {b' : ByteArray} {mx' : Nat} {rt' : Option FieldType} {rm' : Room} {as' : Array Value} {Q' : Option Value → Heap → Prop}
    (w1 : (Jvm.Cond.methodLink own index y).before a0 Z = true) (w2 : (Jvm.Cond.static y).before a0 Z = true) (w3 : (Jvm.Cond.initialized y.cls).before a0 Z = true) (w4 : (Jvm.Cond.code y b' mx' rt').before a0 Z = true) (hy : y.cls ≠ "java/lang/invoke/MethodHandle" ∧ y.cls ≠ "java/lang/invoke/VarHandle")
    (hM : own_Met l Z y b' mx' rt' [] rm' as' h Q') (hd : decode bytes pc = .ok (.invokestatic index, 3)) (hls : ls.size = mx) (hlen : ∀ sig, parseMethodDescriptor y.desc = some sig → argsL.length = sig.parameters.length) (has : argsL.toArray = as') (hst : st = argsL.reverse ++ rest) (hW : (rest.map fun v => v.category).sum = W)
    (hf : rm'.frames + 1 ≤ R.frames) (hl : W + (mx' + 11) + rm'.locals ≤ R.locals) (hcs : cs + rm'.cells = cs') (hsl : sl + rm'.slots = sl') (hc : cs' ≤ R.cells) (hs : sl' ≤ R.slots)
    (k : ∀ v h', Q' v h' → own_K p l e R s m args below meth c bytes mx rt own nm Z Q pc' ls (v.toList ++ rest) h' cs' sl') : own_K p l e R s m args below meth c bytes mx rt own nm Z Q pc ls st h cs sl := fun T L hx hby hml hrt hlk hown hnm hZ X eT N O' => by
  subst hp; subst hcs; subst hsl; subst hst; subst has; subst eT
  obtain ⟨v, _, ⟨T2, L2, k2, n2⟩, -, X2, ⟨Lc2, ⟨hQ2, N2, O2⟩, l2, y2, z2⟩, st2⟩ := Jvm.LawKit.callS X hx (y := y) hown (mvT hZ w1) (mvT hZ w2) (mvT hZ w3) (mvT hZ w4) hy (own_back (W := W) hZ O' hM w4 w3 hf hl) (g := mkF m pc ls (argsL.reverse ++ rest)) rfl (hls.trans hml.symm) (argsL := argsL) (rest := rest) hlen rfl (by show 2 * 0 + _ ≤ _; omega) (hb hby hd) (fun _ _ => ⟨rfl, rfl, hc, hs⟩)
  dsimp only [Pt.U, Pt.locs, Pt.cells, Pt.slots] at X2 l2 y2 z2 st2 hQ2 O2
  subst l2 y2 z2
  exact own_go st2 (k v _ hQ2 T2 _ hx hby hml hrt hlk hown hnm hZ X2 rfl (N.app N2) O2)
theorem own_callV (pc' : Nat) (hp : pc + 3 = pc') (cs' sl' W : Nat) (argsL rest : List Value) {index : Nat} {C : String} {y z : MethodName} {b' : ByteArray} {mx' : Nat} {rt' : Option FieldType} {rm' : Room} {as' : Array Value} {Q' : Option Value → Heap → Prop} {a : Addr}
    (w1 : (Jvm.Cond.methodLink own index y).before a0 Z = true) (w2 : (Jvm.Cond.declares y).before a0 Z = true) (hnf : ∀ {u : State}, Z.Warmed39 u.vm → NotFace u y) (w5 : (Jvm.Cond.selects C y z).before a0 Z = true) (w6 : (Jvm.Cond.instanceMethod z).before a0 Z = true) (w3 : (Jvm.Cond.initialized z.cls).before a0 Z = true) (w4 : (Jvm.Cond.code z b' mx' rt').before a0 Z = true) (hy : y.cls ≠ "java/lang/invoke/MethodHandle" ∧ y.cls ≠ "java/lang/invoke/VarHandle")
    (E : Exa Z h a C) (hM : own_Met l Z z b' mx' rt' [] rm' as' h Q') (hd : decode bytes pc = .ok (.invokevirtual index, 3)) (hls : ls.size = mx) (hlen : ∀ sig, parseMethodDescriptor y.desc = some sig → argsL.length = sig.parameters.length) (has : (.ref a :: argsL).toArray = as') (hst : st = argsL.reverse ++ .ref a :: rest) (hW : (rest.map fun v => v.category).sum = W)
    (hf : rm'.frames + 1 ≤ R.frames) (hl : W + (mx' + 11) + rm'.locals ≤ R.locals) (hcs : cs + rm'.cells = cs') (hsl : sl + rm'.slots = sl') (hc : cs' ≤ R.cells) (hs : sl' ≤ R.slots)
    (k : ∀ v h', Q' v h' → own_K p l e R s m args below meth c bytes mx rt own nm Z Q pc' ls (v.toList ++ rest) h' cs' sl') : own_K p l e R s m args below meth c bytes mx rt own nm Z Q pc ls st h cs sl := fun T L hx hby hml hrt hlk hown hnm hZ X eT N O' => by
  subst hp; subst hcs; subst hsl; subst hst; subst has; subst eT
  obtain ⟨cq, kq, qa, qb, qc⟩ := isOf hZ rfl E
  obtain ⟨v, _, ⟨T2, L2, k2, n2⟩, -, X2, ⟨Lc2, ⟨hQ2, N2, O2⟩, l2, y2, z2⟩, st2⟩ := X.virtualBack hx (y := y) (z := z) hown (mvT hZ w1) (mvT hZ w2) (hnf hZ) (mvT hZ w5) (mvT hZ w6) hy (own_back (W := W) hZ O' hM w4 w3 hf hl) qa qc (g := mkF m pc ls (argsL.reverse ++ .ref a :: rest)) rfl (hls.trans hml.symm) (Steps.refl _) (argsL := argsL) (rest := rest) hlen rfl (by show 2 * 0 + _ ≤ _; omega) (hb hby hd) (fun _ _ => ⟨rfl, rfl, hc, hs⟩)
  dsimp only [Pt.U, Pt.locs, Pt.cells, Pt.slots] at X2 l2 y2 z2 st2 hQ2 O2
  subst l2 y2 z2
  exact own_go (fun t q => st2.trans q) (k v _ hQ2 T2 _ hx hby hml hrt hlk hown hnm hZ X2 rfl (N.app N2) O2)
theorem own_callF (pc' : Nat) (hp : pc + 5 = pc') (cs' sl' W : Nat) (argsL rest : List Value) {index count : Nat} {C : String} {y z : MethodName} {b' : ByteArray} {mx' : Nat} {rt' : Option FieldType} {rm' : Room} {as' : Array Value} {Q' : Option Value → Heap → Prop} {a : Addr}
    (w1 : (Jvm.Cond.methodLink own index y).before a0 Z = true) (w2 : (Jvm.Cond.declares y).before a0 Z = true) (w7 : (Jvm.Cond.interfaceMethod y.cls y.cls y.name y.desc).before a0 Z = true) (w7k : ((Jvm.Cond.interfaceMethod y.cls y.cls y.name y.desc).onTables && (Jvm.Cond.interfaceMethod y.cls y.cls y.name y.desc).keepsFace) = true) (w5 : (Jvm.Cond.selects C y z).before a0 Z = true) (w6 : (Jvm.Cond.instanceMethod z).before a0 Z = true) (w8 : (Jvm.Cond.publicMethod z).before a0 Z = true) (w9 : (Jvm.Cond.unhidden C y.name y.desc).before a0 Z = true) (w10 : (Jvm.Cond.castable C y.cls).before a0 Z = true) (w3 : (Jvm.Cond.initialized z.cls).before a0 Z = true) (w4 : (Jvm.Cond.code z b' mx' rt').before a0 Z = true) (hy : y.cls ≠ "java/lang/invoke/MethodHandle" ∧ y.cls ≠ "java/lang/invoke/VarHandle")
    (E : Exa Z h a C) (hM : own_Met l Z z b' mx' rt' [] rm' as' h Q') (hd : decode bytes pc = .ok (.invokeinterface index count, 5)) (hls : ls.size = mx) (hlen : ∀ sig, parseMethodDescriptor y.desc = some sig → argsL.length = sig.parameters.length) (has : (.ref a :: argsL).toArray = as') (hst : st = argsL.reverse ++ .ref a :: rest) (hW : (rest.map fun v => v.category).sum = W)
    (hf : rm'.frames + 1 ≤ R.frames) (hl : W + (mx' + 11) + rm'.locals ≤ R.locals) (hcs : cs + rm'.cells = cs') (hsl : sl + rm'.slots = sl') (hc : cs' ≤ R.cells) (hs : sl' ≤ R.slots)
    (k : ∀ v h', Q' v h' → own_K p l e R s m args below meth c bytes mx rt own nm Z Q pc' ls (v.toList ++ rest) h' cs' sl') : own_K p l e R s m args below meth c bytes mx rt own nm Z Q pc ls st h cs sl := fun T L hx hby hml hrt hlk hown hnm hZ X eT N O' => by
  subst hp; subst hcs; subst hsl; subst hst; subst has; subst eT
  obtain ⟨cq, kq, qa, qb, qc⟩ := isOf hZ rfl E
  obtain ⟨v, _, ⟨T2, L2, k2, n2⟩, -, X2, ⟨Lc2, ⟨hQ2, N2, O2⟩, l2, y2, z2⟩, st2⟩ := X.interfaceBack hx (xi := y) (y := z) hown (mvT hZ w1) (mvT hZ w2) (mvT hZ w7 w7k) (mvT hZ w5) (mvT hZ w6) (mvT hZ w8) (mvT hZ w9) (mvT hZ w10) hy (own_back (W := W) hZ O' hM w4 w3 hf hl) qa qb qc (g := mkF m pc ls (argsL.reverse ++ .ref a :: rest)) rfl (hls.trans hml.symm) (Steps.refl _) (argsL := argsL) (rest := rest) hlen rfl (by show 2 * 0 + _ ≤ _; omega) (hb hby hd) (fun _ _ => ⟨rfl, rfl, hc, hs⟩)
  dsimp only [Pt.U, Pt.locs, Pt.cells, Pt.slots] at X2 l2 y2 z2 st2 hQ2 O2
  subst l2 y2 z2
  exact own_go (fun t q => st2.trans q) (k v _ hQ2 T2 _ hx hby hml hrt hlk hown hnm hZ X2 rfl (N.app N2) O2)
theorem own_callI (pc' : Nat) (hp : pc + 3 = pc') (cs' sl' W : Nat) (argsL rest : List Value) {index : Nat} {y : MethodName} {b' : ByteArray} {mx' : Nat} {rm' : Room} {as' : Array Value} {Q' : Option Value → Heap → Prop} {a : Addr} (hy1 : y.name = "<init>")
    (w1 : (Jvm.Cond.methodLink own index y).before a0 Z = true) (w6 : (Jvm.Cond.instanceMethod y).before a0 Z = true) (w3 : (Jvm.Cond.initialized y.cls).before a0 Z = true) (w4 : (Jvm.Cond.code y b' mx' none).before a0 Z = true) (hy : y.cls ≠ "java/lang/invoke/MethodHandle" ∧ y.cls ≠ "java/lang/invoke/VarHandle")
    (hM : own_Met l Z y b' mx' none [] rm' as' h Q') (hd : decode bytes pc = .ok (.invokespecial index, 3)) (hls : ls.size = mx) (hlen : ∀ sig, parseMethodDescriptor y.desc = some sig → argsL.length = sig.parameters.length) (has : (.ref a :: argsL).toArray = as') (hst : st = argsL.reverse ++ .ref a :: rest) (hW : (rest.map fun v => v.category).sum = W)
    (hf : rm'.frames + 1 ≤ R.frames) (hl : W + (mx' + 11) + rm'.locals ≤ R.locals) (hcs : cs + rm'.cells = cs') (hsl : sl + rm'.slots = sl') (hc : cs' ≤ R.cells) (hs : sl' ≤ R.slots)
    (k : ∀ v h', Q' v h' → own_K p l e R s m args below meth c bytes mx rt own nm Z Q pc' ls (v.toList ++ rest) h' cs' sl') : own_K p l e R s m args below meth c bytes mx rt own nm Z Q pc ls st h cs sl := fun T L hx hby hml hrt hlk hown hnm hZ X eT N O' => by
  subst hp; subst hcs; subst hsl; subst hst; subst has; subst eT
  obtain ⟨v, _, ⟨T2, L2, k2, n2⟩, -, X2, ⟨Lc2, ⟨hQ2, N2, O2⟩, l2, y2, z2⟩, st2⟩ := X.specialBack hx (y := y) hy1 hown (mvT hZ w1) (mvT hZ w6) (mvT hZ w4) hy (own_back (W := W) hZ O' hM w4 w3 hf hl) (g := mkF m pc ls (argsL.reverse ++ .ref a :: rest)) rfl (hls.trans hml.symm) (Steps.refl _) (a := a) (argsL := argsL) (rest := rest) hlen rfl (by show 2 * 0 + _ ≤ _; omega) (hb hby hd) (fun _ _ => ⟨rfl, rfl, hc, hs⟩)
  dsimp only [Pt.U, Pt.locs, Pt.cells, Pt.slots] at X2 l2 y2 z2 st2 hQ2 O2
  subst l2 y2 z2
  exact own_go (fun t q => st2.trans q) (k v _ hQ2 T2 _ hx hby hml hrt hlk hown hnm hZ X2 rfl (N.app N2) O2)
theorem own_callP (pc' : Nat) (hp : pc + 3 = pc') (cs' sl' W : Nat) (argsL rest : List Value) {index : Nat} {C : String} {y : MethodName} {b' : ByteArray} {mx' : Nat} {rt' : Option FieldType} {rm' : Room} {as' : Array Value} {Q' : Option Value → Heap → Prop} {a : Addr}
    (w1 : (Jvm.Cond.methodLink own index y).before a0 Z = true) (w6 : (Jvm.Cond.instanceMethod y).before a0 Z = true) (w5 : (Jvm.Cond.selects y.cls y y).before a0 Z = true) (w7 : (Jvm.Cond.privateMethod y).before a0 Z = true) (w3 : (Jvm.Cond.initialized y.cls).before a0 Z = true) (w4 : (Jvm.Cond.code y b' mx' rt').before a0 Z = true) (hy : y.cls ≠ "java/lang/invoke/MethodHandle" ∧ y.cls ≠ "java/lang/invoke/VarHandle")
    (E : Exa Z h a C) (hM : own_Met l Z y b' mx' rt' [] rm' as' h Q') (hd : decode bytes pc = .ok (.invokevirtual index, 3)) (hls : ls.size = mx) (hlen : ∀ sig, parseMethodDescriptor y.desc = some sig → argsL.length = sig.parameters.length) (has : (.ref a :: argsL).toArray = as') (hst : st = argsL.reverse ++ .ref a :: rest) (hW : (rest.map fun v => v.category).sum = W)
    (hf : rm'.frames + 1 ≤ R.frames) (hl : W + (mx' + 11) + rm'.locals ≤ R.locals) (hcs : cs + rm'.cells = cs') (hsl : sl + rm'.slots = sl') (hc : cs' ≤ R.cells) (hs : sl' ≤ R.slots)
    (k : ∀ v h', Q' v h' → own_K p l e R s m args below meth c bytes mx rt own nm Z Q pc' ls (v.toList ++ rest) h' cs' sl') : own_K p l e R s m args below meth c bytes mx rt own nm Z Q pc ls st h cs sl := fun T L hx hby hml hrt hlk hown hnm hZ X eT N O' => by
  subst hp; subst hcs; subst hsl; subst hst; subst has; subst eT
  obtain ⟨cq, qa, qb⟩ := E.cell
  obtain ⟨v, _, ⟨T2, L2, k2, n2⟩, -, X2, ⟨Lc2, ⟨hQ2, N2, O2⟩, l2, y2, z2⟩, st2⟩ := X.privateBack hx (y := y) hown (mvT hZ w1) (mvT hZ w6) (mvT hZ w5) (Cond.privateMethod_at (mvP hZ w7 (args := #[]))) (mvT hZ w4) hy (own_back (W := W) hZ O' hM w4 w3 hf hl) (g := mkF m pc ls (argsL.reverse ++ .ref a :: rest)) rfl (hls.trans hml.symm) (Steps.refl _) (a := a) qa qb (argsL := argsL) (rest := rest) hlen rfl (by show 2 * 0 + _ ≤ _; omega) (hb hby hd) (fun _ _ => ⟨rfl, rfl, hc, hs⟩)
  dsimp only [Pt.U, Pt.locs, Pt.cells, Pt.slots] at X2 l2 y2 z2 st2 hQ2 O2
  subst l2 y2 z2
  exact own_go (fun t q => st2.trans q) (k v _ hQ2 T2 _ hx hby hml hrt hlk hown hnm hZ X2 rfl (N.app N2) O2)
theorem own_kv {rest : List Value} {Qv : Value → Heap → Prop} (k : ∀ x h', Qv x h' → own_K p l e R s m args below meth c bytes mx rt own nm Z Q pc ls (x :: rest) h' cs sl) : ∀ v h', own_some Qv v h' → own_K p l e R s m args below meth c bytes mx rt own nm Z Q pc ls (v.toList ++ rest) h' cs sl := by
  intro v h' hq
  obtain ⟨x, rfl, hq⟩ := hq
  exact k x h' hq
theorem own_k0 {rest : List Value} {Qn : Heap → Prop} (k : ∀ h', Qn h' → own_K p l e R s m args below meth c bytes mx rt own nm Z Q pc ls rest h' cs sl) : ∀ v h', own_none Qn v h' → own_K p l e R s m args below meth c bytes mx rt own nm Z Q pc ls (v.toList ++ rest) h' cs sl := by
  intro v h' hq
  obtain ⟨rfl, hq⟩ := hq
  exact k h' hq
theorem own_getFR (pc' : Nat) (hp : pc + 3 = pc') {O n d : String} {index : Nat} (w : (Jvm.Cond.fieldRef own index O n d).before a0 Z = true) {a : Addr} {v : Value} (F : Fld Z h a O n d v) (hd : decode bytes pc = .ok (.getfield index, 3))
    (q : own_K p l e R s m args below meth c bytes mx rt own nm Z Q pc' ls (v :: st) h cs sl) : own_K p l e R s m args below meth c bytes mx rt own nm Z Q pc ls (.ref a :: st) h cs sl := fun T L hx hby hml hrt hlk hown hnm hZ X eT N O' => by
  subst hp
  have hT : Z.Warmed39 T.vm := wtrans hZ X.warmed
  have hcur : (Z.setVm T.vm).vm.findClass own = some m.cls := by
    show T.vm.findClass own = _
    rw [X.warmed.alike.findClass]; exact hown
  obtain ⟨c1, k1, i1, f1, e1, rdy⟩ := Cond.fieldRef_spec hcur (Cond.fieldRef_warmed39 hT w)
  obtain ⟨cell, cf, k, i, f, g1, g2, g3, g4, g5, g6, g7⟩ := F
  obtain ⟨k', q1, q2⟩ := State.fieldFound?_setVm (s := Z) hT.alike g2
  cases e1.symm.trans q1
  exact own_go (fun t k => (X.getfieldR hx (g := mkF m pc ls (.ref a :: st)) rfl rdy g3 rfl (by rw [eT]; exact g1) g4 g7 (hb hby hd) (Steps.refl _)).trans k) (q T L hx hby hml hrt hlk hown hnm hZ X eT N O')
theorem own_callQ (pc' : Nat) (hp : pc + 3 = pc') (cs' sl' W : Nat) (argsL rest : List Value) {index : Nat} {C C2 : String} {y y2 : MethodName} {b' : ByteArray} {mx' : Nat} {rt' : Option FieldType} {rm' : Room} {as' : Array Value} {Q' : Option Value → Heap → Prop} {a : Addr}
    (w1 : (Jvm.Cond.methodLink own index y).before a0 Z = true) (w6 : (Jvm.Cond.instanceMethod y).before a0 Z = true) (w5 : (Jvm.Cond.selects C2 y2 y2).before a0 Z = true) (w8 : (Jvm.Cond.instanceMethod y2).before a0 Z = true) (hc2 : y2.cls = y.cls) (w7 : (Jvm.Cond.privateMethod y).before a0 Z = true) (w3 : (Jvm.Cond.initialized y.cls).before a0 Z = true) (w4 : (Jvm.Cond.code y b' mx' rt').before a0 Z = true) (hy : y.cls ≠ "java/lang/invoke/MethodHandle" ∧ y.cls ≠ "java/lang/invoke/VarHandle")
    (E : Exa Z h a C) (hM : own_Met l Z y b' mx' rt' [] rm' as' h Q') (hd : decode bytes pc = .ok (.invokevirtual index, 3)) (hls : ls.size = mx) (hlen : ∀ sig, parseMethodDescriptor y.desc = some sig → argsL.length = sig.parameters.length) (has : (.ref a :: argsL).toArray = as') (hst : st = argsL.reverse ++ .ref a :: rest) (hW : (rest.map fun v => v.category).sum = W)
    (hf : rm'.frames + 1 ≤ R.frames) (hl : W + (mx' + 11) + rm'.locals ≤ R.locals) (hcs : cs + rm'.cells = cs') (hsl : sl + rm'.slots = sl') (hc : cs' ≤ R.cells) (hs : sl' ≤ R.slots)
    (k : ∀ v h', Q' v h' → own_K p l e R s m args below meth c bytes mx rt own nm Z Q pc' ls (v.toList ++ rest) h' cs' sl') : own_K p l e R s m args below meth c bytes mx rt own nm Z Q pc ls st h cs sl := fun T L hx hby hml hrt hlk hown hnm hZ X eT N O' => by
  subst hp; subst hcs; subst hsl; subst hst; subst has; subst eT
  obtain ⟨cq, qa, qb⟩ := E.cell
  have hpr := Cond.privateMethod_at (mvP hZ w7 (args := args))
  obtain ⟨r0, mt, hn2, -⟩ := Cond.instanceMethod_spec (mvT (args := args) hZ w8)
  obtain ⟨kk, hk1, hk2⟩ := notFace_of_selects (args := args) (mvT hZ w5) r0 hn2
  have hse : (Jvm.Cond.selects y.cls y y).before args s = true := selects_self_of_private (hc2 ▸ findClass_of_methodNamed hn2) hk1 hk2 hpr (mvT hZ w6) hy
  obtain ⟨v, _, ⟨T2, L2, k2, n2⟩, -, X2, ⟨Lc2, ⟨hQ2, N2, O2⟩, l2, y2, z2⟩, st2⟩ := X.privateBack hx (y := y) hown (mvT hZ w1) (mvT hZ w6) hse hpr (mvT hZ w4) hy (own_back (W := W) hZ O' hM w4 w3 hf hl) (g := mkF m pc ls (argsL.reverse ++ .ref a :: rest)) rfl (hls.trans hml.symm) (Steps.refl _) (a := a) qa qb (argsL := argsL) (rest := rest) hlen rfl (by show 2 * 0 + _ ≤ _; omega) (hb hby hd) (fun _ _ => ⟨rfl, rfl, hc, hs⟩)
  dsimp only [Pt.U, Pt.locs, Pt.cells, Pt.slots] at X2 l2 y2 z2 st2 hQ2 O2
  subst l2 y2 z2
  exact own_go (fun t q => st2.trans q) (k v _ hQ2 T2 _ hx hby hml hrt hlk hown hnm hZ X2 rfl (N.app N2) O2)
-- a case's words
theorem own_eqI {t : Term} {k : Int32} {o : Option Outcome} {idx : List Nat} {first : State} (hq : (Jvm.Cond.eq t (.int k)).value args first o s idx = some true) : t.eval args first o idx s = some (.int k) := by
  simp only [Jvm.Cond.value, Term.eval] at hq
  cases ht : t.eval args first o idx s with
  | none => simp [ht] at hq
  | some x => cases x <;> simp [ht] at hq ⊢; exact hq
theorem own_eqR {t u : Term} {a : Addr} {o : Option Outcome} {idx : List Nat} {first : State} (hq : (Jvm.Cond.eq t u).value args first o s idx = some true) (hu : u.eval args first o idx s = some (.ref a)) : t.eval args first o idx s = some (.ref a) := by
  simp only [Jvm.Cond.value, hu] at hq
  cases ht : t.eval args first o idx s with
  | none => simp [ht] at hq
  | some x => cases x <;> simp [ht] at hq ⊢; exact hq
theorem own_fold {f : Nat → Option Bool} : ∀ (L : List Nat) (acc : Option Bool), L.foldl (fun acc i => match acc with | some true => f i | x => x) acc = some true → acc = some true ∧ ∀ i ∈ L, f i = some true
  | [], acc, hq => ⟨hq, fun _ q => nomatch q⟩
  | a :: L, acc, hq => by
    obtain ⟨h1, h2⟩ := own_fold L _ hq
    rcases acc with _ | _ | _
    · cases h1
    · cases h1
    · exact ⟨rfl, fun i hi => (List.mem_cons.mp hi).elim (fun q => q ▸ h1) (h2 i)⟩
theorem own_all {t : Term} {cd : Jvm.Cond} {o : Option Outcome} {idx : List Nat} {first : State} {a : Addr} {cell : Cell} (hq : (Jvm.Cond.all t cd).value args first o s idx = some true) (ht : t.eval args first o idx s = some (.ref a)) (ha : s.arrayAt? a = some cell) : ∀ i, i < cell.slots.size → cd.value args first o s (i :: idx) = some true := by
  simp only [Jvm.Cond.value, ht, ha] at hq
  exact fun i hi => (own_fold _ _ hq).2 i (List.mem_range.mpr hi)
theorem own_len {t : Term} {n : Int32} {o : Option Outcome} {idx : List Nat} {first : State} {a : Addr} {cell : Cell} (hq : (Term.length t).eval args first o idx s = some (.int n)) (ht : t.eval args first o idx s = some (.ref a)) (ha : s.arrayAt? a = some cell) : cell.slots.size.toInt32 = n ∧ cell.slots.size < 2 ^ 31 := by
  simp only [Term.eval, ht, ha, Option.bind_eq_bind, Option.bind_some] at hq
  split at hq
  · rename_i hl
    exact ⟨by simpa using hq, hl⟩
  · cases hq
theorem own_elem {t : Term} {j : Int32} {v : Value} {o : Option Outcome} {idx : List Nat} {first : State} {a : Addr} {cell : Cell} (hq : (Term.elem t (.int j)).eval args first o idx s = some v) (ht : t.eval args first o idx s = some (.ref a)) (ha : s.heap[a]? = some cell) : cell.slots[j.toNatClampNeg]? = some v :=
  (elem_in hq ht rfl ha).2
-- ints as integers
theorem own_lt {x y : Int32} (h : x < y) : x.toInt < y.toInt := Int32.lt_iff_toInt_lt.mp h
theorem own_nlt {x y : Int32} (h : ¬ x < y) : y.toInt ≤ x.toInt := Int.not_lt.mp fun q => h (Int32.lt_iff_toInt_lt.mpr q)
theorem own_eq {x y : Int32} (h : x = y) : x.toInt = y.toInt := congrArg _ h
theorem own_neq {x y : Int32} (h : ¬ x = y) : ¬ x.toInt = y.toInt := fun q => h (Int32.toInt_inj.mp q)
theorem own_lt' {x y : Int32} (h : x.toInt < y.toInt) : x < y := Int32.lt_iff_toInt_lt.mpr h
theorem own_nlt' {x y : Int32} (h : y.toInt ≤ x.toInt) : ¬ x < y := fun q => Int.not_lt.mpr h (Int32.lt_iff_toInt_lt.mp q)
theorem own_eq' {x y : Int32} (h : x.toInt = y.toInt) : x = y := Int32.toInt_inj.mp h
theorem own_neq' {x y : Int32} (h : ¬ x.toInt = y.toInt) : ¬ x = y := fun q => h (congrArg _ q)
theorem own_ltL {x y : Int64} (h : x < y) : x.toInt < y.toInt := Int64.lt_iff_toInt_lt.mp h
theorem own_nltL {x y : Int64} (h : ¬ x < y) : y.toInt ≤ x.toInt := Int.not_lt.mp fun q => h (Int64.lt_iff_toInt_lt.mpr q)
theorem own_eqL {x y : Int64} (h : x = y) : x.toInt = y.toInt := congrArg _ h
theorem own_neqL {x y : Int64} (h : ¬ x = y) : ¬ x.toInt = y.toInt := fun q => h (Int64.toInt_inj.mp q)
theorem own_ltL' {x y : Int64} (h : x.toInt < y.toInt) : x < y := Int64.lt_iff_toInt_lt.mpr h
theorem own_nltL' {x y : Int64} (h : y.toInt ≤ x.toInt) : ¬ x < y := fun q => Int.not_lt.mpr h (Int64.lt_iff_toInt_lt.mp q)
theorem own_eqL' {x y : Int64} (h : x.toInt = y.toInt) : x = y := Int64.toInt_inj.mp h
theorem own_neqL' {x y : Int64} (h : ¬ x.toInt = y.toInt) : ¬ x = y := fun q => h (congrArg _ q)
end Own
def own_form (x : Int32) : Int32 := if x = 61 ∨ x = 43 ∨ x = 45 ∨ x = 64 then 1 else 0
def own_SF (c : Cell) : Prop := ∀ x : Int32, 32 ≤ x.toInt → x.toInt ≤ 126 → ¬ (x < 0 ∨ c.slots.size ≤ x.toNatClampNeg) ∧ c.slots[x.toNatClampNeg]? = some (.int (own_form x))
theorem own_orR {args : Array Value} {first s : State} {o : Option Outcome} {idx : List Nat} {G X : Jvm.Cond} (hq : (Jvm.Cond.or G X).value args first o s idx = some true) (hG : G.value args first o s idx = some false) : X.value args first o s idx = some true := by
  simp only [Jvm.Cond.value, hG] at hq
  exact hq
theorem own_form0 {x : Int32} (h1 : ¬ x.toInt = 61) (h2 : ¬ x.toInt = 43) (h3 : ¬ x.toInt = 45) (h4 : ¬ x.toInt = 64) : own_form x = 0 :=
  if_neg fun q => by
    rcases q with q | q | q | q
    · exact h1 (own_eq q)
    · exact h2 (own_eq q)
    · exact h3 (own_eq q)
    · exact h4 (own_eq q)
theorem own_sf {args : Array Value} {s : State} {t : Term} {w : Addr} {c : Cell} (ev : ∀ idx, t.eval args s none idx s = some (.ref w)) (hc : s.heap[w]? = some c) (len : c.slots.size.toInt32 = 128 ∧ c.slots.size < 2 ^ 31)
    (a1 : ∀ i, i < c.slots.size → (Jvm.Cond.or (.le (.int 43) (.index 0)) (.eq (.elem t (.index 0)) (.int 0))).value args s none s [i] = some true)
    (a2 : ∀ i, i < c.slots.size → (Jvm.Cond.or (.lt (.index 0) (.int 46)) (.or (.le (.int 61) (.index 0)) (.eq (.elem t (.index 0)) (.int 0)))).value args s none s [i] = some true)
    (a3 : ∀ i, i < c.slots.size → (Jvm.Cond.or (.lt (.index 0) (.int 65)) (.eq (.elem t (.index 0)) (.int 0))).value args s none s [i] = some true)
    (e43 : c.slots[(43 : Int32).toNatClampNeg]? = some (.int 1)) (e44 : c.slots[(44 : Int32).toNatClampNeg]? = some (.int 0)) (e45 : c.slots[(45 : Int32).toNatClampNeg]? = some (.int 1)) (e61 : c.slots[(61 : Int32).toNatClampNeg]? = some (.int 1)) (e62 : c.slots[(62 : Int32).toNatClampNeg]? = some (.int 0)) (e63 : c.slots[(63 : Int32).toNatClampNeg]? = some (.int 0)) (e64 : c.slots[(64 : Int32).toNatClampNeg]? = some (.int 1)) : own_SF c := by
  have hsz : c.slots.size = 128 := by
    have q1 := len_toInt len.2
    rw [len.1] at q1
    have q2 : (128 : Int32).toInt = 128 := rfl
    omega
  intro x h1 h2
  have hx0 : ¬ x < 0 := own_nlt' (by show (0 : Int) ≤ _; omega)
  have hn := nat_of hx0
  have hb := (back32 hx0).1
  have hlt : x.toNatClampNeg < c.slots.size := by omega
  have hin : ¬ (x < 0 ∨ c.slots.size ≤ x.toNatClampNeg) := fun q => q.elim hx0 (by omega)
  have hj : (Term.index 0).eval args s none [x.toNatClampNeg] s = some (.int x) := by simp [Term.eval, hb]
  have zero : (Jvm.Cond.eq (.elem t (.index 0)) (.int 0)).value args s none s [x.toNatClampNeg] = some true → c.slots[x.toNatClampNeg]? = some (.int 0) := fun q => (elem_in (own_eqI q) (ev _) hj hc).2
  refine ⟨hin, ?_⟩
  by_cases c43 : x.toInt < 43
  · rw [own_form0 (by omega) (by omega) (by omega) (by omega)]
    refine zero (own_orR (a1 _ hlt) ?_)
    have : ¬ (43 : Int32) ≤ x := fun q => by have := Int32.le_iff_toInt_le.mp q; have : (43 : Int32).toInt = 43 := rfl; omega
    simp [Jvm.Cond.value, hj, Term.eval, hb, this]
  · by_cases d43 : x.toInt = 43
    · obtain rfl : x = 43 := own_eq' d43
      exact e43
    by_cases d44 : x.toInt = 44
    · obtain rfl : x = 44 := own_eq' d44
      exact e44
    by_cases d45 : x.toInt = 45
    · obtain rfl : x = 45 := own_eq' d45
      exact e45
    by_cases d61 : x.toInt = 61
    · obtain rfl : x = 61 := own_eq' d61
      exact e61
    by_cases d62 : x.toInt = 62
    · obtain rfl : x = 62 := own_eq' d62
      exact e62
    by_cases d63 : x.toInt = 63
    · obtain rfl : x = 63 := own_eq' d63
      exact e63
    by_cases d64 : x.toInt = 64
    · obtain rfl : x = 64 := own_eq' d64
      exact e64
    rw [own_form0 (by omega) (by omega) (by omega) (by omega)]
    by_cases c61 : x.toInt < 61
    · have k1 : ¬ x < (46 : Int32) := own_nlt' (by show (46 : Int) ≤ _; omega)
      have k2 : ¬ (61 : Int32) ≤ x := fun q => by have := Int32.le_iff_toInt_le.mp q; have : (61 : Int32).toInt = 61 := rfl; omega
      refine zero (own_orR (own_orR (a2 _ hlt) ?_) ?_)
      · simp [Jvm.Cond.value, hj, Term.eval, hb, k1]
      · simp [Jvm.Cond.value, hj, Term.eval, hb, k2]
    · have k1 : ¬ x < (65 : Int32) := own_nlt' (by show (65 : Int) ≤ _; omega)
      refine zero (own_orR (a3 _ hlt) ?_)
      simp [Jvm.Cond.value, hj, Term.eval, hb, k1]
theorem own_narB {r : Int32} (h1 : 32 ≤ r.toInt) (h2 : r.toInt ≤ 126) : nar .byte r = r := own_eq' (by have := c_i2b r; show r.toInt8.toInt32.toInt = _; omega)
def own_Ini (Z : State) (w_STARTS_FORMULA : Addr) (c_w_STARTS_FORMULA : Cell) : Prop := (Sta Z Z.heap "com/example/termledger/termledger/Ids" "STARTS_FORMULA" "[Z" (.ref w_STARTS_FORMULA)) ∧ (Arr Z Z.heap w_STARTS_FORMULA c_w_STARTS_FORMULA .boolean) ∧ (own_SF c_w_STARTS_FORMULA)
theorem d1_0 : decode method_2_code 0 = .ok (.bipush 32, 2) := by decide +kernel
theorem d1_2 : decode method_2_code 2 = .ok (.iload_n 0, 1) := by decide +kernel
theorem d1_3 : decode method_2_code 3 = .ok (.ldc 7, 2) := by decide +kernel
theorem d1_5 : decode method_2_code 5 = .ok (.iand, 1) := by decide +kernel
theorem d1_6 : decode method_2_code 6 = .ok (.bipush 95, 2) := by decide +kernel
theorem d1_8 : decode method_2_code 8 = .ok (.irem, 1) := by decide +kernel
theorem d1_9 : decode method_2_code 9 = .ok (.iadd, 1) := by decide +kernel
theorem d1_10 : decode method_2_code 10 = .ok (.i2b, 1) := by decide +kernel
theorem d1_11 : decode method_2_code 11 = .ok (.ireturn, 1) := by decide +kernel
theorem own_pf0 : plainFor (⟨"com/example/termledger/termledger/IdsIsPrintableIdPinLaw", "printable", "(I)B"⟩ : MethodName) = true := by first | exact plainFor_of_name (by first | (simp [plainName, overriddenIn]; done) | decide +kernel) | decide +kernel
set_option maxRecDepth 65536 in
set_option maxHeartbeats 40000000 in
theorem rm1 (l : Launch) (Z : State) (a0 : Array Value) (hw : ∀ d ∈ tables_1, d.before a0 Z = true) (ws : List Jvm.Cond) (p1 : Int32) (h0 : Heap)  :
    own_Met l Z (⟨"com/example/termledger/termledger/IdsIsPrintableIdPinLaw", "printable", "(I)B"⟩ : MethodName) method_2_code 1 (some .byte) ws ({ frames := 0, cells := 0, slots := 0, locals := 0 } : Room) #[(.int p1)] h0 (own_some (fun v h => (∃ r : Int32, v = .int r ∧ 32 ≤ r.toInt ∧ r.toInt ≤ 126) ∧ h = h0)) := by
  refine own_met (ls0 := #[.val (.int p1)]) own_pf0 (fun m => by first | rfl | (simp [entryFrame, mkF, argsToLocals, Value.category, maxLocals]; done)) ?_
  intro p e s m below meth c
  refine own_old (fun O0 => ?_)
  refine own_bipush 2 rfl (32 : Int32) d1_0 rfl ?_
  refine own_iloadN 3 rfl d1_2 rfl ?_
  refine own_ldcInt 5 rfl (hw _ (List.mem_of_getElem? (i := 5) rfl)) d1_3 ?_
  refine own_iand 6 rfl d1_5 ?_
  refine own_bipush 8 rfl (95 : Int32) d1_6 rfl ?_
  refine own_irem 9 rfl d1_8 (by decide) ?_
  refine own_iadd 10 rfl d1_9 ?_
  refine own_i2b 11 rfl d1_10 ?_
  refine own_retN rfl (by simp) d1_11 (by decide) (by decide) ?_
  have c1 := c_mask p1 2147483647 31 (by decide) (by decide)
  have c2 := (c_irem (p1 &&& (2147483647 : Int32)) 95 95 rfl).1 (by rw [c1]; omega)
  rw [c1] at c2
  have c3 := c_iadd (32 : Int32) ((p1 &&& (2147483647 : Int32)) % (95 : Int32))
  have c0 : (32 : Int32).toInt = 32 := rfl
  have r3 := rng32 ((32 : Int32) + ((p1 &&& (2147483647 : Int32)) % (95 : Int32)))
  have c4 := c_i2b ((32 : Int32) + ((p1 &&& (2147483647 : Int32)) % (95 : Int32)))
  have c5 := c_i2b ((32 : Int32) + ((p1 &&& (2147483647 : Int32)) % (95 : Int32))).toInt8.toInt32
  refine ⟨_, rfl, ⟨_, rfl, ?_, ?_⟩, rfl⟩
  · show 32 ≤ ((32 : Int32) + ((p1 &&& (2147483647 : Int32)) % (95 : Int32))).toInt8.toInt32.toInt8.toInt32.toInt
    omega
  · show ((32 : Int32) + ((p1 &&& (2147483647 : Int32)) % (95 : Int32))).toInt8.toInt32.toInt8.toInt32.toInt ≤ 126
    omega
theorem d2_0 : decode jdk_29_method_69_code 0 = .ok (.iload_n 0, 1) := by decide +kernel
theorem d2_1 : decode jdk_29_method_69_code 1 = .ok (.iload_n 1, 1) := by decide +kernel
theorem d2_2 : decode jdk_29_method_69_code 2 = .ok (.if_icmp .gt 7, 3) := by decide +kernel
theorem d2_9 : decode jdk_29_method_69_code 9 = .ok (.iload_n 1, 1) := by decide +kernel
theorem d2_10 : decode jdk_29_method_69_code 10 = .ok (.ireturn, 1) := by decide +kernel
theorem d2_5 : decode jdk_29_method_69_code 5 = .ok (.iload_n 0, 1) := by decide +kernel
theorem d2_6 : decode jdk_29_method_69_code 6 = .ok (.goto 4, 3) := by decide +kernel
theorem own_pf1 : plainFor (⟨"java/lang/Math", "min", "(II)I"⟩ : MethodName) = true := by first | exact plainFor_of_name (by first | (simp [plainName, overriddenIn]; done) | decide +kernel) | decide +kernel
set_option maxRecDepth 65536 in
set_option maxHeartbeats 40000000 in
theorem rm2 (l : Launch) (Z : State) (a0 : Array Value) (hw : ∀ d ∈ tables_1, d.before a0 Z = true) (ws : List Jvm.Cond) (p1 p2 : Int32) (h0 : Heap)  :
    own_Met l Z (⟨"java/lang/Math", "min", "(II)I"⟩ : MethodName) jdk_29_method_69_code 2 (some .int) ws ({ frames := 0, cells := 0, slots := 0, locals := 0 } : Room) #[(.int p1), (.int p2)] h0 (own_some (fun v h => v = .int (if p2 < p1 then p2 else p1) ∧ h = h0)) := by
  refine own_met (ls0 := #[.val (.int p1), .val (.int p2)]) own_pf1 (fun m => by first | rfl | (simp [entryFrame, mkF, argsToLocals, Value.category, maxLocals]; done)) ?_
  intro p e s m below meth c
  refine own_old (fun O0 => ?_)
  refine own_iloadN 1 rfl d2_0 rfl ?_
  refine own_iloadN 2 rfl d2_1 rfl ?_
  by_cases hc2 : p2 < p1
  · have ihc2 : p2.toInt < p1.toInt := own_lt hc2
    refine own_icmpYes 9 d2_2 (tlt hc2).2.2.1 (by decide) (by decide) ?_
    refine own_iloadN 10 rfl d2_9 rfl ?_
    refine own_retI rfl d2_10 (by decide) (by decide) ?_
    exact ⟨_, rfl, by simp [hc2], rfl⟩
  · have ihc2 : p1.toInt ≤ p2.toInt := own_nlt hc2
    refine own_icmpNo 5 rfl d2_2 (flt hc2).2.2.1 ?_
    refine own_iloadN 6 rfl d2_5 rfl ?_
    refine own_goto 10 d2_6 (by decide) (by decide) ?_
    refine own_retI rfl d2_10 (by decide) (by decide) ?_
    exact ⟨_, rfl, by simp [hc2], rfl⟩
theorem d3_0 : decode prog_19_method_3_code 0 = .ok (.iload_n 1, 1) := by decide +kernel
theorem d3_1 : decode prog_19_method_3_code 1 = .ok (.iload_n 2, 1) := by decide +kernel
theorem d3_2 : decode prog_19_method_3_code 2 = .ok (.if_icmp .eq 13, 3) := by decide +kernel
theorem d3_15 : decode prog_19_method_3_code 15 = .ok (.iconst 1, 1) := by decide +kernel
theorem d3_16 : decode prog_19_method_3_code 16 = .ok (.goto 4, 3) := by decide +kernel
theorem d3_20 : decode prog_19_method_3_code 20 = .ok (.ireturn, 1) := by decide +kernel
theorem own_pf2 : plainFor (⟨"com/example/termledger/termledger/Ids", "isPrintableId", "([BII)Z"⟩ : MethodName) = true := by first | exact plainFor_of_name (by first | (simp [plainName, overriddenIn]; done) | decide +kernel) | decide +kernel
set_option maxRecDepth 65536 in
set_option maxHeartbeats 40000000 in
theorem rm3e (l : Launch) (Z : State) (a0 : Array Value) (hw : ∀ d ∈ tables_1, d.before a0 Z = true) (ws : List Jvm.Cond) (p1 : Addr) (p2 : Int32) (w_STARTS_FORMULA : Addr) (c_w_STARTS_FORMULA : Cell) (h0 : Heap) (I : own_Ini Z w_STARTS_FORMULA c_w_STARTS_FORMULA)  :
    own_Met l Z (⟨"com/example/termledger/termledger/Ids", "isPrintableId", "([BII)Z"⟩ : MethodName) prog_19_method_3_code 3 (some .boolean) ws ({ frames := 0, cells := 0, slots := 0, locals := 0 } : Room) #[(.ref p1), (.int p2), (.int p2)] h0 (own_some (fun v h => v = .int 1 ∧ h = h0)) := by
  have I' := I
  obtain ⟨S_w_STARTS_FORMULA, A_w_STARTS_FORMULA, SF⟩ := I'
  refine own_met (ls0 := #[.val (.ref p1), .val (.int p2), .val (.int p2)]) own_pf2 (fun m => by first | rfl | (simp [entryFrame, mkF, argsToLocals, Value.category, maxLocals]; done)) ?_
  intro p e s m below meth c
  refine own_old (fun O0 => ?_)
  refine own_iloadN 1 rfl d3_0 rfl ?_
  refine own_iloadN 2 rfl d3_1 rfl ?_
  refine own_icmpYes 15 d3_2 (teq (rfl : p2 = p2)).1 (by decide) (by decide) ?_
  refine own_iconst 16 rfl (1 : Int32) d3_15 rfl ?_
  refine own_goto 20 d3_16 (by decide) (by decide) ?_
  refine own_retN rfl (by simp) d3_20 (by decide) (by decide) ?_
  exact ⟨_, rfl, rfl, rfl⟩
theorem d3_5 : decode prog_19_method_3_code 5 = .ok (.getstatic 50, 3) := by decide +kernel
theorem d3_8 : decode prog_19_method_3_code 8 = .ok (.aload_n 0, 1) := by decide +kernel
theorem d3_9 : decode prog_19_method_3_code 9 = .ok (.iload_n 1, 1) := by decide +kernel
theorem d3_10 : decode prog_19_method_3_code 10 = .ok (.baload, 1) := by decide +kernel
theorem d3_11 : decode prog_19_method_3_code 11 = .ok (.baload, 1) := by decide +kernel
theorem d3_12 : decode prog_19_method_3_code 12 = .ok (.ifCond .ne 7, 3) := by decide +kernel
theorem d3_19 : decode prog_19_method_3_code 19 = .ok (.iconst 0, 1) := by decide +kernel
set_option maxRecDepth 65536 in
set_option maxHeartbeats 40000000 in
theorem rm3n (l : Launch) (Z : State) (a0 : Array Value) (hw : ∀ d ∈ tables_1, d.before a0 Z = true) (ws : List Jvm.Cond) (p1 : Addr) (p2 p3 : Int32) (c1 : Cell) (x1 : Int32) (w_STARTS_FORMULA : Addr) (c_w_STARTS_FORMULA : Cell) (h0 : Heap) (I : own_Ini Z w_STARTS_FORMULA c_w_STARTS_FORMULA) (hne : ¬ p2.toInt = p3.toInt) (A1 : Arr Z h0 p1 c1 .byte) (hin1 : ¬ (p2 < 0 ∨ c1.slots.size ≤ p2.toNatClampNeg)) (hat1 : c1.slots[p2.toNatClampNeg]? = some (.int x1)) (b1 : 32 ≤ x1.toInt) (b2 : x1.toInt ≤ 126) :
    own_Met l Z (⟨"com/example/termledger/termledger/Ids", "isPrintableId", "([BII)Z"⟩ : MethodName) prog_19_method_3_code 3 (some .boolean) ws ({ frames := 0, cells := 0, slots := 0, locals := 0 } : Room) #[(.ref p1), (.int p2), (.int p3)] h0 (own_some (fun v h => v = .int (if own_form x1 = 0 then 1 else 0) ∧ h = h0)) := by
  have I' := I
  obtain ⟨S_w_STARTS_FORMULA, A_w_STARTS_FORMULA, SF⟩ := I'
  refine own_met (ls0 := #[.val (.ref p1), .val (.int p2), .val (.int p3)]) own_pf2 (fun m => by first | rfl | (simp [entryFrame, mkF, argsToLocals, Value.category, maxLocals]; done)) ?_
  intro p e s m below meth c
  refine own_old (fun O0 => ?_)
  refine own_iloadN 1 rfl d3_0 rfl ?_
  refine own_iloadN 2 rfl d3_1 rfl ?_
  have ihc2 : ¬ p2.toInt = p3.toInt := by omega
  have hc2 : ¬ (p2 = p3) := own_neq' ihc2
  refine own_icmpNo 5 rfl d3_2 (feq hc2).1 ?_
  refine own_getS 8 rfl (host := "") (Or.inl (hw _ (List.mem_of_getElem? (i := 14) rfl))) Via.refl S_w_STARTS_FORMULA d3_5 ?_
  refine own_aloadN 9 rfl d3_8 rfl rfl ?_
  refine own_iloadN 10 rfl d3_9 rfl ?_
  refine own_baload 11 rfl A1 hin1 hat1 d3_10 ?_
  refine own_zaload 12 rfl (A_w_STARTS_FORMULA.ext O0.2) (SF x1 b1 b2).1 (SF x1 b1 b2).2 d3_11 ?_
  by_cases hc12 : (own_form x1) = (0 : Int32)
  · have ihc12 : (own_form x1).toInt = (0 : Int) := own_eq hc12
    refine own_ifNo 15 rfl d3_12 (teq hc12).2 ?_
    refine own_iconst 16 rfl (1 : Int32) d3_15 rfl ?_
    refine own_goto 20 d3_16 (by decide) (by decide) ?_
    refine own_retN rfl (by simp) d3_20 (by decide) (by decide) ?_
    exact ⟨_, rfl, by simp [hc12, nar], rfl⟩
  · have ihc12 : ¬ (own_form x1).toInt = (0 : Int) := own_neq hc12
    refine own_ifYes 19 d3_12 (feq hc12).2 (by decide) (by decide) ?_
    refine own_iconst 20 rfl (0 : Int32) d3_19 rfl ?_
    refine own_retN rfl (by simp) d3_20 (by decide) (by decide) ?_
    exact ⟨_, rfl, by simp [hc12, nar], rfl⟩
theorem own_pd0 : parseMethodDescriptor "(I)B" = some ⟨[.int], some .byte⟩ := by decide +kernel
theorem own_pd1 : parseMethodDescriptor "(II)I" = some ⟨[.int, .int], some .int⟩ := by decide +kernel
theorem own_pd2 : parseMethodDescriptor "([BII)Z" = some ⟨[(.array .byte), .int, .int], some .boolean⟩ := by decide +kernel
theorem own_pf3 : plainFor (⟨"com/example/termledger/termledger/IdsIsPrintableIdPinLaw", "law", "(IIII)Z"⟩ : MethodName) = true := by first | exact plainFor_of_name (by first | (simp [plainName, overriddenIn]; done) | decide +kernel) | decide +kernel
set_option maxRecDepth 65536 in
set_option maxHeartbeats 40000000 in
theorem rm0 (l : Launch) (Z : State) (a0 : Array Value) (hw : ∀ d ∈ tables_1, d.before a0 Z = true) (ws : List Jvm.Cond) (p1 p2 p3 p4 : Int32) (w_STARTS_FORMULA : Addr) (c_w_STARTS_FORMULA : Cell) (h0 : Heap) (I : own_Ini Z w_STARTS_FORMULA c_w_STARTS_FORMULA)  :
    own_Met l Z x code maxLocals ret ws room_1 #[(.int p1), (.int p2), (.int p3), (.int p4)] h0 (own_some (fun v h => v = .int 1)) := by
  have I' := I
  obtain ⟨S_w_STARTS_FORMULA, A_w_STARTS_FORMULA, SF⟩ := I'
  refine own_met (ls0 := #[.val (.int p1), .val (.int p2), .val (.int p3), .val (.int p4), .unset, .unset, .unset, .unset, .unset]) own_pf3 (fun m => by first | rfl | (simp [entryFrame, mkF, argsToLocals, Value.category, maxLocals]; done)) ?_
  intro p e s m below meth c
  refine own_old (fun O0 => ?_)
  refine own_iconst 1 rfl (3 : Int32) at_0 rfl ?_
  refine own_newP 3 rfl 1 3 3 "[B" (by decide) (hw _ (List.mem_of_getElem? (i := 0) rfl)) at_1 (by decide) (by decide) (by decide) rfl rfl (by decide) (by decide) (fun h1 b1 k1 z1 g_b1 E1 V1 X_b1 => ?_)
  have V1p : Arv Z h1 b1 k1 .byte (3 : Int32) [(.int (0 : Int32)), (.int (0 : Int32)), (.int (0 : Int32))] (.int (0 : Int32)) := V1.pad (pad_rep [] (.int (0 : Int32)) 3)
  refine own_astore 5 rfl #[.val (.int p1), .val (.int p2), .val (.int p3), .val (.int p4), .val (.ref b1), .unset, .unset, .unset, .unset] at_3 rfl rfl ?_
  refine own_aload 7 rfl at_5 rfl rfl ?_
  refine own_iconst 8 rfl (0 : Int32) at_7 rfl ?_
  refine own_iloadN 9 rfl at_8 rfl ?_
  refine own_callS 12 rfl 1 3 2 [(.int p1)] [(.int (0 : Int32)), (.ref b1)] (y := (⟨"com/example/termledger/termledger/IdsIsPrintableIdPinLaw", "printable", "(I)B"⟩ : MethodName)) (hw _ (List.mem_of_getElem? (i := 1) rfl)) (hw _ (List.mem_of_getElem? (i := 2) rfl)) (hw _ (List.mem_of_getElem? (i := 3) rfl)) (hw _ (List.mem_of_getElem? (i := 4) rfl)) (by decide) (rm1 l Z a0 hw [] p1 h1) at_9 rfl (lenOf own_pd0 rfl) rfl rfl rfl (by decide) (by decide) rfl rfl (by decide) (by decide) (own_kv fun v2 h2 q2 => ?_)
  obtain ⟨⟨r2, rfl, rb2, rc2⟩, e2⟩ := q2
  rw [e2]
  obtain ⟨c3, A3, q3, S3, N3, H3, G3⟩ := id V1p
  refine own_bastore 13 rfl g_b1 A3 (inb_of S3 ⟨by decide, by decide⟩) at_12 (fun h3 W3 => ?_)
  have V3 : Arv Z h3 b1 k1 .byte (3 : Int32) [(.int (nar .byte r2)), (.int (0 : Int32)), (.int (0 : Int32))] (.int (0 : Int32)) := Arv.set A3 q3 S3 N3 H3 G3 (fits_nar_byte _) W3 0 rfl (Nat.le_of_ble_eq_true rfl)
  rw [own_narB rb2 rc2] at V3
  refine own_aload 15 rfl at_13 rfl rfl ?_
  refine own_iconst 16 rfl (1 : Int32) at_15 rfl ?_
  refine own_iloadN 17 rfl at_16 rfl ?_
  refine own_callS 20 rfl 1 3 2 [(.int p2)] [(.int (1 : Int32)), (.ref b1)] (y := (⟨"com/example/termledger/termledger/IdsIsPrintableIdPinLaw", "printable", "(I)B"⟩ : MethodName)) (hw _ (List.mem_of_getElem? (i := 1) rfl)) (hw _ (List.mem_of_getElem? (i := 2) rfl)) (hw _ (List.mem_of_getElem? (i := 3) rfl)) (hw _ (List.mem_of_getElem? (i := 4) rfl)) (by decide) (rm1 l Z a0 hw [] p2 h3) at_17 rfl (lenOf own_pd0 rfl) rfl rfl rfl (by decide) (by decide) rfl rfl (by decide) (by decide) (own_kv fun v4 h4 q4 => ?_)
  obtain ⟨⟨r4, rfl, rb4, rc4⟩, e4⟩ := q4
  rw [e4]
  obtain ⟨c5, A5, q5, S5, N5, H5, G5⟩ := id V3
  refine own_bastore 21 rfl g_b1 A5 (inb_of S5 ⟨by decide, by decide⟩) at_20 (fun h5 W5 => ?_)
  have V5 : Arv Z h5 b1 k1 .byte (3 : Int32) [(.int r2), (.int (nar .byte r4)), (.int (0 : Int32))] (.int (0 : Int32)) := Arv.set A5 q5 S5 N5 H5 G5 (fits_nar_byte _) W5 1 rfl (Nat.le_of_ble_eq_true rfl)
  rw [own_narB rb4 rc4] at V5
  refine own_aload 23 rfl at_21 rfl rfl ?_
  refine own_iconst 24 rfl (2 : Int32) at_23 rfl ?_
  refine own_iloadN 25 rfl at_24 rfl ?_
  refine own_callS 28 rfl 1 3 2 [(.int p3)] [(.int (2 : Int32)), (.ref b1)] (y := (⟨"com/example/termledger/termledger/IdsIsPrintableIdPinLaw", "printable", "(I)B"⟩ : MethodName)) (hw _ (List.mem_of_getElem? (i := 1) rfl)) (hw _ (List.mem_of_getElem? (i := 2) rfl)) (hw _ (List.mem_of_getElem? (i := 3) rfl)) (hw _ (List.mem_of_getElem? (i := 4) rfl)) (by decide) (rm1 l Z a0 hw [] p3 h5) at_25 rfl (lenOf own_pd0 rfl) rfl rfl rfl (by decide) (by decide) rfl rfl (by decide) (by decide) (own_kv fun v6 h6 q6 => ?_)
  obtain ⟨⟨r6, rfl, rb6, rc6⟩, e6⟩ := q6
  rw [e6]
  obtain ⟨c7, A7, q7, S7, N7, H7, G7⟩ := id V5
  refine own_bastore 29 rfl g_b1 A7 (inb_of S7 ⟨by decide, by decide⟩) at_28 (fun h7 W7 => ?_)
  have V7 : Arv Z h7 b1 k1 .byte (3 : Int32) [(.int r2), (.int r4), (.int (nar .byte r6))] (.int (0 : Int32)) := Arv.set A7 q7 S7 N7 H7 G7 (fits_nar_byte _) W7 2 rfl (Nat.le_of_ble_eq_true rfl)
  rw [own_narB rb6 rc6] at V7
  refine own_iloadN 30 rfl at_29 rfl ?_
  refine own_iconst 31 rfl (3 : Int32) at_30 rfl ?_
  refine own_iand 32 rfl at_31 ?_
  have cf := c_mask p4 3 2 (by decide) (by decide)
  generalize hf : (p4 &&& (3 : Int32)) = f at cf ⊢
  have fb : 0 ≤ f.toInt ∧ f.toInt ≤ 3 := by omega
  clear cf hf
  refine own_istore 34 rfl #[.val (.int p1), .val (.int p2), .val (.int p3), .val (.int p4), .val (.ref b1), .val (.int f), .unset, .unset, .unset] at_32 rfl ?_
  refine own_iconst 35 rfl (3 : Int32) at_34 rfl ?_
  refine own_iload 37 rfl at_35 rfl ?_
  refine own_iloadN 38 rfl at_37 rfl ?_
  refine own_iconst 39 rfl (2 : Int32) at_38 rfl ?_
  refine own_iushr 40 rfl at_39 ?_
  refine own_iconst 41 rfl (3 : Int32) at_40 rfl ?_
  refine own_iand 42 rfl at_41 ?_
  have cd := c_mask ((p4.toUInt32 >>> ((2 : Int32) &&& 31).toUInt32).toInt32) 3 2 (by decide) (by decide)
  generalize hdd : (((p4.toUInt32 >>> ((2 : Int32) &&& 31).toUInt32).toInt32) &&& (3 : Int32)) = dd at cd ⊢
  have db : 0 ≤ dd.toInt ∧ dd.toInt ≤ 3 := by omega
  clear cd hdd
  have hr_f : f = (0 : Int32) ∨ f = (1 : Int32) ∨ f = (2 : Int32) ∨ f = (3 : Int32) := by
    have hrz : f.toInt = 0 ∨ f.toInt = 1 ∨ f.toInt = 2 ∨ f.toInt = 3 := by omega
    rcases hrz with q | q | q | q
    · exact Or.inl (own_eq' q)
    · exact Or.inr (Or.inl (own_eq' q))
    · exact Or.inr (Or.inr (Or.inl (own_eq' q)))
    · exact Or.inr (Or.inr (Or.inr (own_eq' q)))
  rcases hr_f with rfl | rfl | rfl | rfl
  · have hin_f := (rfl : (0 : Int) = 0)
    have hr_dd : dd = (0 : Int32) ∨ dd = (1 : Int32) ∨ dd = (2 : Int32) ∨ dd = (3 : Int32) := by
      have hrz : dd.toInt = 0 ∨ dd.toInt = 1 ∨ dd.toInt = 2 ∨ dd.toInt = 3 := by omega
      rcases hrz with q | q | q | q
      · exact Or.inl (own_eq' q)
      · exact Or.inr (Or.inl (own_eq' q))
      · exact Or.inr (Or.inr (Or.inl (own_eq' q)))
      · exact Or.inr (Or.inr (Or.inr (own_eq' q)))
    rcases hr_dd with rfl | rfl | rfl | rfl
    · have hin_dd := (rfl : (0 : Int) = 0)
      refine own_iadd 43 rfl at_42 ?_
      rw [show ((0 : Int32) + (0 : Int32)) = (0 : Int32) from by decide]
      refine own_callS 46 rfl 1 3 0 [(.int (3 : Int32)), (.int (0 : Int32))] [] (y := (⟨"java/lang/Math", "min", "(II)I"⟩ : MethodName)) (hw _ (List.mem_of_getElem? (i := 6) rfl)) (hw _ (List.mem_of_getElem? (i := 7) rfl)) (hw _ (List.mem_of_getElem? (i := 8) rfl)) (hw _ (List.mem_of_getElem? (i := 9) rfl)) (by decide) (rm2 l Z a0 hw [] (3 : Int32) (0 : Int32)  h7 ) at_43 rfl (lenOf own_pd1 rfl) rfl rfl rfl (by decide) (by decide) rfl rfl (by decide) (by decide) (own_kv fun v8 h8 q8 => ?_)
      obtain ⟨rfl, e8⟩ := q8
      rw [e8]
      rw [show (if (0 : Int32) < (3 : Int32) then (0 : Int32) else (3 : Int32)) = (0 : Int32) from by decide]
      refine own_istore 48 rfl #[.val (.int p1), .val (.int p2), .val (.int p3), .val (.int p4), .val (.ref b1), .val (.int (0 : Int32)), .val (.int (0 : Int32)), .unset, .unset] at_46 rfl ?_
      refine own_iload 50 rfl at_48 rfl ?_
      refine own_iload 52 rfl at_50 rfl ?_
      refine own_icmpNo 55 rfl at_52 (teq (rfl : (0 : Int32) = (0 : Int32))).2 ?_
      refine own_iconst 56 rfl (1 : Int32) at_55 rfl ?_
      refine own_istore 58 rfl #[.val (.int p1), .val (.int p2), .val (.int p3), .val (.int p4), .val (.ref b1), .val (.int (0 : Int32)), .val (.int (0 : Int32)), .val (.int (1 : Int32)), .unset] at_56 rfl ?_
      refine own_goto 103 at_58 (by decide) (by decide) ?_
      refine own_aload 105 rfl at_103 rfl rfl ?_
      refine own_iload 107 rfl at_105 rfl ?_
      refine own_iload 109 rfl at_107 rfl ?_
      refine own_callS 112 rfl 1 3 0 [(.ref b1), (.int (0 : Int32)), (.int (0 : Int32))] [] (y := (⟨"com/example/termledger/termledger/Ids", "isPrintableId", "([BII)Z"⟩ : MethodName)) (hw _ (List.mem_of_getElem? (i := 10) rfl)) (hw _ (List.mem_of_getElem? (i := 11) rfl)) (hw _ (List.mem_of_getElem? (i := 12) rfl)) (hw _ (List.mem_of_getElem? (i := 13) rfl)) (by decide) (rm3e l Z a0 hw [] b1 (0 : Int32) w_STARTS_FORMULA c_w_STARTS_FORMULA h7 I) at_109 rfl (lenOf own_pd2 rfl) rfl rfl rfl (by decide) (by decide) rfl rfl (by decide) (by decide) (own_kv fun v9 h9 q9 => ?_)
      obtain ⟨rfl, e9⟩ := q9
      rw [e9]
      refine own_istore 114 rfl #[.val (.int p1), .val (.int p2), .val (.int p3), .val (.int p4), .val (.ref b1), .val (.int (0 : Int32)), .val (.int (0 : Int32)), .val (.int (1 : Int32)), .val (.int (1 : Int32))] at_112 rfl ?_
      refine own_iload 116 rfl at_114 rfl ?_
      refine own_iload 118 rfl at_116 rfl ?_
      refine own_icmpNo 121 rfl at_118 (teq (rfl : (1 : Int32) = (1 : Int32))).2 ?_
      refine own_iconst 122 rfl (1 : Int32) at_121 rfl ?_
      refine own_goto 126 at_122 (by decide) (by decide) ?_
      refine own_retN rfl (by simp) at_126 (by decide) (by decide) ?_
      exact ⟨_, rfl, rfl⟩
    · have hin_dd := (rfl : (1 : Int) = 1)
      refine own_iadd 43 rfl at_42 ?_
      rw [show ((0 : Int32) + (1 : Int32)) = (1 : Int32) from by decide]
      refine own_callS 46 rfl 1 3 0 [(.int (3 : Int32)), (.int (1 : Int32))] [] (y := (⟨"java/lang/Math", "min", "(II)I"⟩ : MethodName)) (hw _ (List.mem_of_getElem? (i := 6) rfl)) (hw _ (List.mem_of_getElem? (i := 7) rfl)) (hw _ (List.mem_of_getElem? (i := 8) rfl)) (hw _ (List.mem_of_getElem? (i := 9) rfl)) (by decide) (rm2 l Z a0 hw [] (3 : Int32) (1 : Int32)  h7 ) at_43 rfl (lenOf own_pd1 rfl) rfl rfl rfl (by decide) (by decide) rfl rfl (by decide) (by decide) (own_kv fun v10 h10 q10 => ?_)
      obtain ⟨rfl, e10⟩ := q10
      rw [e10]
      rw [show (if (1 : Int32) < (3 : Int32) then (1 : Int32) else (3 : Int32)) = (1 : Int32) from by decide]
      refine own_istore 48 rfl #[.val (.int p1), .val (.int p2), .val (.int p3), .val (.int p4), .val (.ref b1), .val (.int (0 : Int32)), .val (.int (1 : Int32)), .unset, .unset] at_46 rfl ?_
      refine own_iload 50 rfl at_48 rfl ?_
      refine own_iload 52 rfl at_50 rfl ?_
      refine own_icmpYes 61 at_52 (feq (by decide : ¬ ((0 : Int32) = (1 : Int32)))).2 (by decide) (by decide) ?_
      refine own_aload 63 rfl at_61 rfl rfl ?_
      refine own_iload 65 rfl at_63 rfl ?_
      obtain ⟨c11, A11, q11, S11, N11, H11, G11⟩ := id V7
      refine own_baload 66 rfl A11 (inb_of S11 ⟨by decide, by decide⟩) (Has.at H11 (inb_of S11 ⟨by decide, by decide⟩) rfl) at_65 ?_
      refine own_istore 68 rfl #[.val (.int p1), .val (.int p2), .val (.int p3), .val (.int p4), .val (.ref b1), .val (.int (0 : Int32)), .val (.int (1 : Int32)), .unset, .val (.int r2)] at_66 rfl ?_
      refine own_iload 70 rfl at_68 rfl ?_
      refine own_bipush 72 rfl (61 : Int32) at_70 rfl ?_
      by_cases hc72 : r2 = (61 : Int32)
      · have ihc72 : r2.toInt = (61 : Int) := own_eq hc72
        refine own_icmpYes 100 at_72 (teq hc72).1 (by decide) (by decide) ?_
        refine own_iconst 101 rfl (0 : Int32) at_100 rfl ?_
        refine own_istore 103 rfl #[.val (.int p1), .val (.int p2), .val (.int p3), .val (.int p4), .val (.ref b1), .val (.int (0 : Int32)), .val (.int (1 : Int32)), .val (.int (0 : Int32)), .val (.int r2)] at_101 rfl ?_
        refine own_aload 105 rfl at_103 rfl rfl ?_
        refine own_iload 107 rfl at_105 rfl ?_
        refine own_iload 109 rfl at_107 rfl ?_
        obtain ⟨cz, Az, qz, Sz, Nz, Hz, Gz⟩ := id V7
        refine own_callS 112 rfl 1 3 0 [(.ref b1), (.int (0 : Int32)), (.int (1 : Int32))] [] (y := (⟨"com/example/termledger/termledger/Ids", "isPrintableId", "([BII)Z"⟩ : MethodName)) (hw _ (List.mem_of_getElem? (i := 10) rfl)) (hw _ (List.mem_of_getElem? (i := 11) rfl)) (hw _ (List.mem_of_getElem? (i := 12) rfl)) (hw _ (List.mem_of_getElem? (i := 13) rfl)) (by decide) (rm3n l Z a0 hw [] b1 (0 : Int32) (1 : Int32) cz r2 w_STARTS_FORMULA c_w_STARTS_FORMULA h7 I (by decide) Az (inb_of Sz ⟨by decide, by decide⟩) (Has.at Hz (inb_of Sz ⟨by decide, by decide⟩) rfl) rb2 rc2) at_109 rfl (lenOf own_pd2 rfl) rfl rfl rfl (by decide) (by decide) rfl rfl (by decide) (by decide) (own_kv fun v12 h12 q12 => ?_)
        obtain ⟨rfl, e12⟩ := q12
        rw [e12]
        rw [show (if own_form r2 = 0 then (1 : Int32) else 0) = 0 from by simp [own_form, hc72]]
        refine own_istore 114 rfl #[.val (.int p1), .val (.int p2), .val (.int p3), .val (.int p4), .val (.ref b1), .val (.int (0 : Int32)), .val (.int (1 : Int32)), .val (.int (0 : Int32)), .val (.int (0 : Int32))] at_112 rfl ?_
        refine own_iload 116 rfl at_114 rfl ?_
        refine own_iload 118 rfl at_116 rfl ?_
        refine own_icmpNo 121 rfl at_118 (teq (rfl : (0 : Int32) = (0 : Int32))).2 ?_
        refine own_iconst 122 rfl (1 : Int32) at_121 rfl ?_
        refine own_goto 126 at_122 (by decide) (by decide) ?_
        refine own_retN rfl (by simp) at_126 (by decide) (by decide) ?_
        exact ⟨_, rfl, rfl⟩
      · have ihc72 : ¬ r2.toInt = (61 : Int) := own_neq hc72
        refine own_icmpNo 75 rfl at_72 (feq hc72).1 ?_
        refine own_iload 77 rfl at_75 rfl ?_
        refine own_bipush 79 rfl (43 : Int32) at_77 rfl ?_
        by_cases hc79 : r2 = (43 : Int32)
        · have ihc79 : r2.toInt = (43 : Int) := own_eq hc79
          refine own_icmpYes 100 at_79 (teq hc79).1 (by decide) (by decide) ?_
          refine own_iconst 101 rfl (0 : Int32) at_100 rfl ?_
          refine own_istore 103 rfl #[.val (.int p1), .val (.int p2), .val (.int p3), .val (.int p4), .val (.ref b1), .val (.int (0 : Int32)), .val (.int (1 : Int32)), .val (.int (0 : Int32)), .val (.int r2)] at_101 rfl ?_
          refine own_aload 105 rfl at_103 rfl rfl ?_
          refine own_iload 107 rfl at_105 rfl ?_
          refine own_iload 109 rfl at_107 rfl ?_
          obtain ⟨cz, Az, qz, Sz, Nz, Hz, Gz⟩ := id V7
          refine own_callS 112 rfl 1 3 0 [(.ref b1), (.int (0 : Int32)), (.int (1 : Int32))] [] (y := (⟨"com/example/termledger/termledger/Ids", "isPrintableId", "([BII)Z"⟩ : MethodName)) (hw _ (List.mem_of_getElem? (i := 10) rfl)) (hw _ (List.mem_of_getElem? (i := 11) rfl)) (hw _ (List.mem_of_getElem? (i := 12) rfl)) (hw _ (List.mem_of_getElem? (i := 13) rfl)) (by decide) (rm3n l Z a0 hw [] b1 (0 : Int32) (1 : Int32) cz r2 w_STARTS_FORMULA c_w_STARTS_FORMULA h7 I (by decide) Az (inb_of Sz ⟨by decide, by decide⟩) (Has.at Hz (inb_of Sz ⟨by decide, by decide⟩) rfl) rb2 rc2) at_109 rfl (lenOf own_pd2 rfl) rfl rfl rfl (by decide) (by decide) rfl rfl (by decide) (by decide) (own_kv fun v13 h13 q13 => ?_)
          obtain ⟨rfl, e13⟩ := q13
          rw [e13]
          rw [show (if own_form r2 = 0 then (1 : Int32) else 0) = 0 from by simp [own_form, hc72, hc79]]
          refine own_istore 114 rfl #[.val (.int p1), .val (.int p2), .val (.int p3), .val (.int p4), .val (.ref b1), .val (.int (0 : Int32)), .val (.int (1 : Int32)), .val (.int (0 : Int32)), .val (.int (0 : Int32))] at_112 rfl ?_
          refine own_iload 116 rfl at_114 rfl ?_
          refine own_iload 118 rfl at_116 rfl ?_
          refine own_icmpNo 121 rfl at_118 (teq (rfl : (0 : Int32) = (0 : Int32))).2 ?_
          refine own_iconst 122 rfl (1 : Int32) at_121 rfl ?_
          refine own_goto 126 at_122 (by decide) (by decide) ?_
          refine own_retN rfl (by simp) at_126 (by decide) (by decide) ?_
          exact ⟨_, rfl, rfl⟩
        · have ihc79 : ¬ r2.toInt = (43 : Int) := own_neq hc79
          refine own_icmpNo 82 rfl at_79 (feq hc79).1 ?_
          refine own_iload 84 rfl at_82 rfl ?_
          refine own_bipush 86 rfl (45 : Int32) at_84 rfl ?_
          by_cases hc86 : r2 = (45 : Int32)
          · have ihc86 : r2.toInt = (45 : Int) := own_eq hc86
            refine own_icmpYes 100 at_86 (teq hc86).1 (by decide) (by decide) ?_
            refine own_iconst 101 rfl (0 : Int32) at_100 rfl ?_
            refine own_istore 103 rfl #[.val (.int p1), .val (.int p2), .val (.int p3), .val (.int p4), .val (.ref b1), .val (.int (0 : Int32)), .val (.int (1 : Int32)), .val (.int (0 : Int32)), .val (.int r2)] at_101 rfl ?_
            refine own_aload 105 rfl at_103 rfl rfl ?_
            refine own_iload 107 rfl at_105 rfl ?_
            refine own_iload 109 rfl at_107 rfl ?_
            obtain ⟨cz, Az, qz, Sz, Nz, Hz, Gz⟩ := id V7
            refine own_callS 112 rfl 1 3 0 [(.ref b1), (.int (0 : Int32)), (.int (1 : Int32))] [] (y := (⟨"com/example/termledger/termledger/Ids", "isPrintableId", "([BII)Z"⟩ : MethodName)) (hw _ (List.mem_of_getElem? (i := 10) rfl)) (hw _ (List.mem_of_getElem? (i := 11) rfl)) (hw _ (List.mem_of_getElem? (i := 12) rfl)) (hw _ (List.mem_of_getElem? (i := 13) rfl)) (by decide) (rm3n l Z a0 hw [] b1 (0 : Int32) (1 : Int32) cz r2 w_STARTS_FORMULA c_w_STARTS_FORMULA h7 I (by decide) Az (inb_of Sz ⟨by decide, by decide⟩) (Has.at Hz (inb_of Sz ⟨by decide, by decide⟩) rfl) rb2 rc2) at_109 rfl (lenOf own_pd2 rfl) rfl rfl rfl (by decide) (by decide) rfl rfl (by decide) (by decide) (own_kv fun v14 h14 q14 => ?_)
            obtain ⟨rfl, e14⟩ := q14
            rw [e14]
            rw [show (if own_form r2 = 0 then (1 : Int32) else 0) = 0 from by simp [own_form, hc72, hc79, hc86]]
            refine own_istore 114 rfl #[.val (.int p1), .val (.int p2), .val (.int p3), .val (.int p4), .val (.ref b1), .val (.int (0 : Int32)), .val (.int (1 : Int32)), .val (.int (0 : Int32)), .val (.int (0 : Int32))] at_112 rfl ?_
            refine own_iload 116 rfl at_114 rfl ?_
            refine own_iload 118 rfl at_116 rfl ?_
            refine own_icmpNo 121 rfl at_118 (teq (rfl : (0 : Int32) = (0 : Int32))).2 ?_
            refine own_iconst 122 rfl (1 : Int32) at_121 rfl ?_
            refine own_goto 126 at_122 (by decide) (by decide) ?_
            refine own_retN rfl (by simp) at_126 (by decide) (by decide) ?_
            exact ⟨_, rfl, rfl⟩
          · have ihc86 : ¬ r2.toInt = (45 : Int) := own_neq hc86
            refine own_icmpNo 89 rfl at_86 (feq hc86).1 ?_
            refine own_iload 91 rfl at_89 rfl ?_
            refine own_bipush 93 rfl (64 : Int32) at_91 rfl ?_
            by_cases hc93 : r2 = (64 : Int32)
            · have ihc93 : r2.toInt = (64 : Int) := own_eq hc93
              refine own_icmpYes 100 at_93 (teq hc93).1 (by decide) (by decide) ?_
              refine own_iconst 101 rfl (0 : Int32) at_100 rfl ?_
              refine own_istore 103 rfl #[.val (.int p1), .val (.int p2), .val (.int p3), .val (.int p4), .val (.ref b1), .val (.int (0 : Int32)), .val (.int (1 : Int32)), .val (.int (0 : Int32)), .val (.int r2)] at_101 rfl ?_
              refine own_aload 105 rfl at_103 rfl rfl ?_
              refine own_iload 107 rfl at_105 rfl ?_
              refine own_iload 109 rfl at_107 rfl ?_
              obtain ⟨cz, Az, qz, Sz, Nz, Hz, Gz⟩ := id V7
              refine own_callS 112 rfl 1 3 0 [(.ref b1), (.int (0 : Int32)), (.int (1 : Int32))] [] (y := (⟨"com/example/termledger/termledger/Ids", "isPrintableId", "([BII)Z"⟩ : MethodName)) (hw _ (List.mem_of_getElem? (i := 10) rfl)) (hw _ (List.mem_of_getElem? (i := 11) rfl)) (hw _ (List.mem_of_getElem? (i := 12) rfl)) (hw _ (List.mem_of_getElem? (i := 13) rfl)) (by decide) (rm3n l Z a0 hw [] b1 (0 : Int32) (1 : Int32) cz r2 w_STARTS_FORMULA c_w_STARTS_FORMULA h7 I (by decide) Az (inb_of Sz ⟨by decide, by decide⟩) (Has.at Hz (inb_of Sz ⟨by decide, by decide⟩) rfl) rb2 rc2) at_109 rfl (lenOf own_pd2 rfl) rfl rfl rfl (by decide) (by decide) rfl rfl (by decide) (by decide) (own_kv fun v15 h15 q15 => ?_)
              obtain ⟨rfl, e15⟩ := q15
              rw [e15]
              rw [show (if own_form r2 = 0 then (1 : Int32) else 0) = 0 from by simp [own_form, hc72, hc79, hc86, hc93]]
              refine own_istore 114 rfl #[.val (.int p1), .val (.int p2), .val (.int p3), .val (.int p4), .val (.ref b1), .val (.int (0 : Int32)), .val (.int (1 : Int32)), .val (.int (0 : Int32)), .val (.int (0 : Int32))] at_112 rfl ?_
              refine own_iload 116 rfl at_114 rfl ?_
              refine own_iload 118 rfl at_116 rfl ?_
              refine own_icmpNo 121 rfl at_118 (teq (rfl : (0 : Int32) = (0 : Int32))).2 ?_
              refine own_iconst 122 rfl (1 : Int32) at_121 rfl ?_
              refine own_goto 126 at_122 (by decide) (by decide) ?_
              refine own_retN rfl (by simp) at_126 (by decide) (by decide) ?_
              exact ⟨_, rfl, rfl⟩
            · have ihc93 : ¬ r2.toInt = (64 : Int) := own_neq hc93
              refine own_icmpNo 96 rfl at_93 (feq hc93).1 ?_
              refine own_iconst 97 rfl (1 : Int32) at_96 rfl ?_
              refine own_goto 101 at_97 (by decide) (by decide) ?_
              refine own_istore 103 rfl #[.val (.int p1), .val (.int p2), .val (.int p3), .val (.int p4), .val (.ref b1), .val (.int (0 : Int32)), .val (.int (1 : Int32)), .val (.int (1 : Int32)), .val (.int r2)] at_101 rfl ?_
              refine own_aload 105 rfl at_103 rfl rfl ?_
              refine own_iload 107 rfl at_105 rfl ?_
              refine own_iload 109 rfl at_107 rfl ?_
              obtain ⟨cz, Az, qz, Sz, Nz, Hz, Gz⟩ := id V7
              refine own_callS 112 rfl 1 3 0 [(.ref b1), (.int (0 : Int32)), (.int (1 : Int32))] [] (y := (⟨"com/example/termledger/termledger/Ids", "isPrintableId", "([BII)Z"⟩ : MethodName)) (hw _ (List.mem_of_getElem? (i := 10) rfl)) (hw _ (List.mem_of_getElem? (i := 11) rfl)) (hw _ (List.mem_of_getElem? (i := 12) rfl)) (hw _ (List.mem_of_getElem? (i := 13) rfl)) (by decide) (rm3n l Z a0 hw [] b1 (0 : Int32) (1 : Int32) cz r2 w_STARTS_FORMULA c_w_STARTS_FORMULA h7 I (by decide) Az (inb_of Sz ⟨by decide, by decide⟩) (Has.at Hz (inb_of Sz ⟨by decide, by decide⟩) rfl) rb2 rc2) at_109 rfl (lenOf own_pd2 rfl) rfl rfl rfl (by decide) (by decide) rfl rfl (by decide) (by decide) (own_kv fun v16 h16 q16 => ?_)
              obtain ⟨rfl, e16⟩ := q16
              rw [e16]
              rw [show (if own_form r2 = 0 then (1 : Int32) else 0) = 1 from by simp [own_form, hc72, hc79, hc86, hc93]]
              refine own_istore 114 rfl #[.val (.int p1), .val (.int p2), .val (.int p3), .val (.int p4), .val (.ref b1), .val (.int (0 : Int32)), .val (.int (1 : Int32)), .val (.int (1 : Int32)), .val (.int (1 : Int32))] at_112 rfl ?_
              refine own_iload 116 rfl at_114 rfl ?_
              refine own_iload 118 rfl at_116 rfl ?_
              refine own_icmpNo 121 rfl at_118 (teq (rfl : (1 : Int32) = (1 : Int32))).2 ?_
              refine own_iconst 122 rfl (1 : Int32) at_121 rfl ?_
              refine own_goto 126 at_122 (by decide) (by decide) ?_
              refine own_retN rfl (by simp) at_126 (by decide) (by decide) ?_
              exact ⟨_, rfl, rfl⟩
    · have hin_dd := (rfl : (2 : Int) = 2)
      refine own_iadd 43 rfl at_42 ?_
      rw [show ((0 : Int32) + (2 : Int32)) = (2 : Int32) from by decide]
      refine own_callS 46 rfl 1 3 0 [(.int (3 : Int32)), (.int (2 : Int32))] [] (y := (⟨"java/lang/Math", "min", "(II)I"⟩ : MethodName)) (hw _ (List.mem_of_getElem? (i := 6) rfl)) (hw _ (List.mem_of_getElem? (i := 7) rfl)) (hw _ (List.mem_of_getElem? (i := 8) rfl)) (hw _ (List.mem_of_getElem? (i := 9) rfl)) (by decide) (rm2 l Z a0 hw [] (3 : Int32) (2 : Int32)  h7 ) at_43 rfl (lenOf own_pd1 rfl) rfl rfl rfl (by decide) (by decide) rfl rfl (by decide) (by decide) (own_kv fun v17 h17 q17 => ?_)
      obtain ⟨rfl, e17⟩ := q17
      rw [e17]
      rw [show (if (2 : Int32) < (3 : Int32) then (2 : Int32) else (3 : Int32)) = (2 : Int32) from by decide]
      refine own_istore 48 rfl #[.val (.int p1), .val (.int p2), .val (.int p3), .val (.int p4), .val (.ref b1), .val (.int (0 : Int32)), .val (.int (2 : Int32)), .unset, .unset] at_46 rfl ?_
      refine own_iload 50 rfl at_48 rfl ?_
      refine own_iload 52 rfl at_50 rfl ?_
      refine own_icmpYes 61 at_52 (feq (by decide : ¬ ((0 : Int32) = (2 : Int32)))).2 (by decide) (by decide) ?_
      refine own_aload 63 rfl at_61 rfl rfl ?_
      refine own_iload 65 rfl at_63 rfl ?_
      obtain ⟨c18, A18, q18, S18, N18, H18, G18⟩ := id V7
      refine own_baload 66 rfl A18 (inb_of S18 ⟨by decide, by decide⟩) (Has.at H18 (inb_of S18 ⟨by decide, by decide⟩) rfl) at_65 ?_
      refine own_istore 68 rfl #[.val (.int p1), .val (.int p2), .val (.int p3), .val (.int p4), .val (.ref b1), .val (.int (0 : Int32)), .val (.int (2 : Int32)), .unset, .val (.int r2)] at_66 rfl ?_
      refine own_iload 70 rfl at_68 rfl ?_
      refine own_bipush 72 rfl (61 : Int32) at_70 rfl ?_
      by_cases hc72 : r2 = (61 : Int32)
      · have ihc72 : r2.toInt = (61 : Int) := own_eq hc72
        refine own_icmpYes 100 at_72 (teq hc72).1 (by decide) (by decide) ?_
        refine own_iconst 101 rfl (0 : Int32) at_100 rfl ?_
        refine own_istore 103 rfl #[.val (.int p1), .val (.int p2), .val (.int p3), .val (.int p4), .val (.ref b1), .val (.int (0 : Int32)), .val (.int (2 : Int32)), .val (.int (0 : Int32)), .val (.int r2)] at_101 rfl ?_
        refine own_aload 105 rfl at_103 rfl rfl ?_
        refine own_iload 107 rfl at_105 rfl ?_
        refine own_iload 109 rfl at_107 rfl ?_
        obtain ⟨cz, Az, qz, Sz, Nz, Hz, Gz⟩ := id V7
        refine own_callS 112 rfl 1 3 0 [(.ref b1), (.int (0 : Int32)), (.int (2 : Int32))] [] (y := (⟨"com/example/termledger/termledger/Ids", "isPrintableId", "([BII)Z"⟩ : MethodName)) (hw _ (List.mem_of_getElem? (i := 10) rfl)) (hw _ (List.mem_of_getElem? (i := 11) rfl)) (hw _ (List.mem_of_getElem? (i := 12) rfl)) (hw _ (List.mem_of_getElem? (i := 13) rfl)) (by decide) (rm3n l Z a0 hw [] b1 (0 : Int32) (2 : Int32) cz r2 w_STARTS_FORMULA c_w_STARTS_FORMULA h7 I (by decide) Az (inb_of Sz ⟨by decide, by decide⟩) (Has.at Hz (inb_of Sz ⟨by decide, by decide⟩) rfl) rb2 rc2) at_109 rfl (lenOf own_pd2 rfl) rfl rfl rfl (by decide) (by decide) rfl rfl (by decide) (by decide) (own_kv fun v19 h19 q19 => ?_)
        obtain ⟨rfl, e19⟩ := q19
        rw [e19]
        rw [show (if own_form r2 = 0 then (1 : Int32) else 0) = 0 from by simp [own_form, hc72]]
        refine own_istore 114 rfl #[.val (.int p1), .val (.int p2), .val (.int p3), .val (.int p4), .val (.ref b1), .val (.int (0 : Int32)), .val (.int (2 : Int32)), .val (.int (0 : Int32)), .val (.int (0 : Int32))] at_112 rfl ?_
        refine own_iload 116 rfl at_114 rfl ?_
        refine own_iload 118 rfl at_116 rfl ?_
        refine own_icmpNo 121 rfl at_118 (teq (rfl : (0 : Int32) = (0 : Int32))).2 ?_
        refine own_iconst 122 rfl (1 : Int32) at_121 rfl ?_
        refine own_goto 126 at_122 (by decide) (by decide) ?_
        refine own_retN rfl (by simp) at_126 (by decide) (by decide) ?_
        exact ⟨_, rfl, rfl⟩
      · have ihc72 : ¬ r2.toInt = (61 : Int) := own_neq hc72
        refine own_icmpNo 75 rfl at_72 (feq hc72).1 ?_
        refine own_iload 77 rfl at_75 rfl ?_
        refine own_bipush 79 rfl (43 : Int32) at_77 rfl ?_
        by_cases hc79 : r2 = (43 : Int32)
        · have ihc79 : r2.toInt = (43 : Int) := own_eq hc79
          refine own_icmpYes 100 at_79 (teq hc79).1 (by decide) (by decide) ?_
          refine own_iconst 101 rfl (0 : Int32) at_100 rfl ?_
          refine own_istore 103 rfl #[.val (.int p1), .val (.int p2), .val (.int p3), .val (.int p4), .val (.ref b1), .val (.int (0 : Int32)), .val (.int (2 : Int32)), .val (.int (0 : Int32)), .val (.int r2)] at_101 rfl ?_
          refine own_aload 105 rfl at_103 rfl rfl ?_
          refine own_iload 107 rfl at_105 rfl ?_
          refine own_iload 109 rfl at_107 rfl ?_
          obtain ⟨cz, Az, qz, Sz, Nz, Hz, Gz⟩ := id V7
          refine own_callS 112 rfl 1 3 0 [(.ref b1), (.int (0 : Int32)), (.int (2 : Int32))] [] (y := (⟨"com/example/termledger/termledger/Ids", "isPrintableId", "([BII)Z"⟩ : MethodName)) (hw _ (List.mem_of_getElem? (i := 10) rfl)) (hw _ (List.mem_of_getElem? (i := 11) rfl)) (hw _ (List.mem_of_getElem? (i := 12) rfl)) (hw _ (List.mem_of_getElem? (i := 13) rfl)) (by decide) (rm3n l Z a0 hw [] b1 (0 : Int32) (2 : Int32) cz r2 w_STARTS_FORMULA c_w_STARTS_FORMULA h7 I (by decide) Az (inb_of Sz ⟨by decide, by decide⟩) (Has.at Hz (inb_of Sz ⟨by decide, by decide⟩) rfl) rb2 rc2) at_109 rfl (lenOf own_pd2 rfl) rfl rfl rfl (by decide) (by decide) rfl rfl (by decide) (by decide) (own_kv fun v20 h20 q20 => ?_)
          obtain ⟨rfl, e20⟩ := q20
          rw [e20]
          rw [show (if own_form r2 = 0 then (1 : Int32) else 0) = 0 from by simp [own_form, hc72, hc79]]
          refine own_istore 114 rfl #[.val (.int p1), .val (.int p2), .val (.int p3), .val (.int p4), .val (.ref b1), .val (.int (0 : Int32)), .val (.int (2 : Int32)), .val (.int (0 : Int32)), .val (.int (0 : Int32))] at_112 rfl ?_
          refine own_iload 116 rfl at_114 rfl ?_
          refine own_iload 118 rfl at_116 rfl ?_
          refine own_icmpNo 121 rfl at_118 (teq (rfl : (0 : Int32) = (0 : Int32))).2 ?_
          refine own_iconst 122 rfl (1 : Int32) at_121 rfl ?_
          refine own_goto 126 at_122 (by decide) (by decide) ?_
          refine own_retN rfl (by simp) at_126 (by decide) (by decide) ?_
          exact ⟨_, rfl, rfl⟩
        · have ihc79 : ¬ r2.toInt = (43 : Int) := own_neq hc79
          refine own_icmpNo 82 rfl at_79 (feq hc79).1 ?_
          refine own_iload 84 rfl at_82 rfl ?_
          refine own_bipush 86 rfl (45 : Int32) at_84 rfl ?_
          by_cases hc86 : r2 = (45 : Int32)
          · have ihc86 : r2.toInt = (45 : Int) := own_eq hc86
            refine own_icmpYes 100 at_86 (teq hc86).1 (by decide) (by decide) ?_
            refine own_iconst 101 rfl (0 : Int32) at_100 rfl ?_
            refine own_istore 103 rfl #[.val (.int p1), .val (.int p2), .val (.int p3), .val (.int p4), .val (.ref b1), .val (.int (0 : Int32)), .val (.int (2 : Int32)), .val (.int (0 : Int32)), .val (.int r2)] at_101 rfl ?_
            refine own_aload 105 rfl at_103 rfl rfl ?_
            refine own_iload 107 rfl at_105 rfl ?_
            refine own_iload 109 rfl at_107 rfl ?_
            obtain ⟨cz, Az, qz, Sz, Nz, Hz, Gz⟩ := id V7
            refine own_callS 112 rfl 1 3 0 [(.ref b1), (.int (0 : Int32)), (.int (2 : Int32))] [] (y := (⟨"com/example/termledger/termledger/Ids", "isPrintableId", "([BII)Z"⟩ : MethodName)) (hw _ (List.mem_of_getElem? (i := 10) rfl)) (hw _ (List.mem_of_getElem? (i := 11) rfl)) (hw _ (List.mem_of_getElem? (i := 12) rfl)) (hw _ (List.mem_of_getElem? (i := 13) rfl)) (by decide) (rm3n l Z a0 hw [] b1 (0 : Int32) (2 : Int32) cz r2 w_STARTS_FORMULA c_w_STARTS_FORMULA h7 I (by decide) Az (inb_of Sz ⟨by decide, by decide⟩) (Has.at Hz (inb_of Sz ⟨by decide, by decide⟩) rfl) rb2 rc2) at_109 rfl (lenOf own_pd2 rfl) rfl rfl rfl (by decide) (by decide) rfl rfl (by decide) (by decide) (own_kv fun v21 h21 q21 => ?_)
            obtain ⟨rfl, e21⟩ := q21
            rw [e21]
            rw [show (if own_form r2 = 0 then (1 : Int32) else 0) = 0 from by simp [own_form, hc72, hc79, hc86]]
            refine own_istore 114 rfl #[.val (.int p1), .val (.int p2), .val (.int p3), .val (.int p4), .val (.ref b1), .val (.int (0 : Int32)), .val (.int (2 : Int32)), .val (.int (0 : Int32)), .val (.int (0 : Int32))] at_112 rfl ?_
            refine own_iload 116 rfl at_114 rfl ?_
            refine own_iload 118 rfl at_116 rfl ?_
            refine own_icmpNo 121 rfl at_118 (teq (rfl : (0 : Int32) = (0 : Int32))).2 ?_
            refine own_iconst 122 rfl (1 : Int32) at_121 rfl ?_
            refine own_goto 126 at_122 (by decide) (by decide) ?_
            refine own_retN rfl (by simp) at_126 (by decide) (by decide) ?_
            exact ⟨_, rfl, rfl⟩
          · have ihc86 : ¬ r2.toInt = (45 : Int) := own_neq hc86
            refine own_icmpNo 89 rfl at_86 (feq hc86).1 ?_
            refine own_iload 91 rfl at_89 rfl ?_
            refine own_bipush 93 rfl (64 : Int32) at_91 rfl ?_
            by_cases hc93 : r2 = (64 : Int32)
            · have ihc93 : r2.toInt = (64 : Int) := own_eq hc93
              refine own_icmpYes 100 at_93 (teq hc93).1 (by decide) (by decide) ?_
              refine own_iconst 101 rfl (0 : Int32) at_100 rfl ?_
              refine own_istore 103 rfl #[.val (.int p1), .val (.int p2), .val (.int p3), .val (.int p4), .val (.ref b1), .val (.int (0 : Int32)), .val (.int (2 : Int32)), .val (.int (0 : Int32)), .val (.int r2)] at_101 rfl ?_
              refine own_aload 105 rfl at_103 rfl rfl ?_
              refine own_iload 107 rfl at_105 rfl ?_
              refine own_iload 109 rfl at_107 rfl ?_
              obtain ⟨cz, Az, qz, Sz, Nz, Hz, Gz⟩ := id V7
              refine own_callS 112 rfl 1 3 0 [(.ref b1), (.int (0 : Int32)), (.int (2 : Int32))] [] (y := (⟨"com/example/termledger/termledger/Ids", "isPrintableId", "([BII)Z"⟩ : MethodName)) (hw _ (List.mem_of_getElem? (i := 10) rfl)) (hw _ (List.mem_of_getElem? (i := 11) rfl)) (hw _ (List.mem_of_getElem? (i := 12) rfl)) (hw _ (List.mem_of_getElem? (i := 13) rfl)) (by decide) (rm3n l Z a0 hw [] b1 (0 : Int32) (2 : Int32) cz r2 w_STARTS_FORMULA c_w_STARTS_FORMULA h7 I (by decide) Az (inb_of Sz ⟨by decide, by decide⟩) (Has.at Hz (inb_of Sz ⟨by decide, by decide⟩) rfl) rb2 rc2) at_109 rfl (lenOf own_pd2 rfl) rfl rfl rfl (by decide) (by decide) rfl rfl (by decide) (by decide) (own_kv fun v22 h22 q22 => ?_)
              obtain ⟨rfl, e22⟩ := q22
              rw [e22]
              rw [show (if own_form r2 = 0 then (1 : Int32) else 0) = 0 from by simp [own_form, hc72, hc79, hc86, hc93]]
              refine own_istore 114 rfl #[.val (.int p1), .val (.int p2), .val (.int p3), .val (.int p4), .val (.ref b1), .val (.int (0 : Int32)), .val (.int (2 : Int32)), .val (.int (0 : Int32)), .val (.int (0 : Int32))] at_112 rfl ?_
              refine own_iload 116 rfl at_114 rfl ?_
              refine own_iload 118 rfl at_116 rfl ?_
              refine own_icmpNo 121 rfl at_118 (teq (rfl : (0 : Int32) = (0 : Int32))).2 ?_
              refine own_iconst 122 rfl (1 : Int32) at_121 rfl ?_
              refine own_goto 126 at_122 (by decide) (by decide) ?_
              refine own_retN rfl (by simp) at_126 (by decide) (by decide) ?_
              exact ⟨_, rfl, rfl⟩
            · have ihc93 : ¬ r2.toInt = (64 : Int) := own_neq hc93
              refine own_icmpNo 96 rfl at_93 (feq hc93).1 ?_
              refine own_iconst 97 rfl (1 : Int32) at_96 rfl ?_
              refine own_goto 101 at_97 (by decide) (by decide) ?_
              refine own_istore 103 rfl #[.val (.int p1), .val (.int p2), .val (.int p3), .val (.int p4), .val (.ref b1), .val (.int (0 : Int32)), .val (.int (2 : Int32)), .val (.int (1 : Int32)), .val (.int r2)] at_101 rfl ?_
              refine own_aload 105 rfl at_103 rfl rfl ?_
              refine own_iload 107 rfl at_105 rfl ?_
              refine own_iload 109 rfl at_107 rfl ?_
              obtain ⟨cz, Az, qz, Sz, Nz, Hz, Gz⟩ := id V7
              refine own_callS 112 rfl 1 3 0 [(.ref b1), (.int (0 : Int32)), (.int (2 : Int32))] [] (y := (⟨"com/example/termledger/termledger/Ids", "isPrintableId", "([BII)Z"⟩ : MethodName)) (hw _ (List.mem_of_getElem? (i := 10) rfl)) (hw _ (List.mem_of_getElem? (i := 11) rfl)) (hw _ (List.mem_of_getElem? (i := 12) rfl)) (hw _ (List.mem_of_getElem? (i := 13) rfl)) (by decide) (rm3n l Z a0 hw [] b1 (0 : Int32) (2 : Int32) cz r2 w_STARTS_FORMULA c_w_STARTS_FORMULA h7 I (by decide) Az (inb_of Sz ⟨by decide, by decide⟩) (Has.at Hz (inb_of Sz ⟨by decide, by decide⟩) rfl) rb2 rc2) at_109 rfl (lenOf own_pd2 rfl) rfl rfl rfl (by decide) (by decide) rfl rfl (by decide) (by decide) (own_kv fun v23 h23 q23 => ?_)
              obtain ⟨rfl, e23⟩ := q23
              rw [e23]
              rw [show (if own_form r2 = 0 then (1 : Int32) else 0) = 1 from by simp [own_form, hc72, hc79, hc86, hc93]]
              refine own_istore 114 rfl #[.val (.int p1), .val (.int p2), .val (.int p3), .val (.int p4), .val (.ref b1), .val (.int (0 : Int32)), .val (.int (2 : Int32)), .val (.int (1 : Int32)), .val (.int (1 : Int32))] at_112 rfl ?_
              refine own_iload 116 rfl at_114 rfl ?_
              refine own_iload 118 rfl at_116 rfl ?_
              refine own_icmpNo 121 rfl at_118 (teq (rfl : (1 : Int32) = (1 : Int32))).2 ?_
              refine own_iconst 122 rfl (1 : Int32) at_121 rfl ?_
              refine own_goto 126 at_122 (by decide) (by decide) ?_
              refine own_retN rfl (by simp) at_126 (by decide) (by decide) ?_
              exact ⟨_, rfl, rfl⟩
    · have hin_dd := (rfl : (3 : Int) = 3)
      refine own_iadd 43 rfl at_42 ?_
      rw [show ((0 : Int32) + (3 : Int32)) = (3 : Int32) from by decide]
      refine own_callS 46 rfl 1 3 0 [(.int (3 : Int32)), (.int (3 : Int32))] [] (y := (⟨"java/lang/Math", "min", "(II)I"⟩ : MethodName)) (hw _ (List.mem_of_getElem? (i := 6) rfl)) (hw _ (List.mem_of_getElem? (i := 7) rfl)) (hw _ (List.mem_of_getElem? (i := 8) rfl)) (hw _ (List.mem_of_getElem? (i := 9) rfl)) (by decide) (rm2 l Z a0 hw [] (3 : Int32) (3 : Int32)  h7 ) at_43 rfl (lenOf own_pd1 rfl) rfl rfl rfl (by decide) (by decide) rfl rfl (by decide) (by decide) (own_kv fun v24 h24 q24 => ?_)
      obtain ⟨rfl, e24⟩ := q24
      rw [e24]
      rw [show (if (3 : Int32) < (3 : Int32) then (3 : Int32) else (3 : Int32)) = (3 : Int32) from by decide]
      refine own_istore 48 rfl #[.val (.int p1), .val (.int p2), .val (.int p3), .val (.int p4), .val (.ref b1), .val (.int (0 : Int32)), .val (.int (3 : Int32)), .unset, .unset] at_46 rfl ?_
      refine own_iload 50 rfl at_48 rfl ?_
      refine own_iload 52 rfl at_50 rfl ?_
      refine own_icmpYes 61 at_52 (feq (by decide : ¬ ((0 : Int32) = (3 : Int32)))).2 (by decide) (by decide) ?_
      refine own_aload 63 rfl at_61 rfl rfl ?_
      refine own_iload 65 rfl at_63 rfl ?_
      obtain ⟨c25, A25, q25, S25, N25, H25, G25⟩ := id V7
      refine own_baload 66 rfl A25 (inb_of S25 ⟨by decide, by decide⟩) (Has.at H25 (inb_of S25 ⟨by decide, by decide⟩) rfl) at_65 ?_
      refine own_istore 68 rfl #[.val (.int p1), .val (.int p2), .val (.int p3), .val (.int p4), .val (.ref b1), .val (.int (0 : Int32)), .val (.int (3 : Int32)), .unset, .val (.int r2)] at_66 rfl ?_
      refine own_iload 70 rfl at_68 rfl ?_
      refine own_bipush 72 rfl (61 : Int32) at_70 rfl ?_
      by_cases hc72 : r2 = (61 : Int32)
      · have ihc72 : r2.toInt = (61 : Int) := own_eq hc72
        refine own_icmpYes 100 at_72 (teq hc72).1 (by decide) (by decide) ?_
        refine own_iconst 101 rfl (0 : Int32) at_100 rfl ?_
        refine own_istore 103 rfl #[.val (.int p1), .val (.int p2), .val (.int p3), .val (.int p4), .val (.ref b1), .val (.int (0 : Int32)), .val (.int (3 : Int32)), .val (.int (0 : Int32)), .val (.int r2)] at_101 rfl ?_
        refine own_aload 105 rfl at_103 rfl rfl ?_
        refine own_iload 107 rfl at_105 rfl ?_
        refine own_iload 109 rfl at_107 rfl ?_
        obtain ⟨cz, Az, qz, Sz, Nz, Hz, Gz⟩ := id V7
        refine own_callS 112 rfl 1 3 0 [(.ref b1), (.int (0 : Int32)), (.int (3 : Int32))] [] (y := (⟨"com/example/termledger/termledger/Ids", "isPrintableId", "([BII)Z"⟩ : MethodName)) (hw _ (List.mem_of_getElem? (i := 10) rfl)) (hw _ (List.mem_of_getElem? (i := 11) rfl)) (hw _ (List.mem_of_getElem? (i := 12) rfl)) (hw _ (List.mem_of_getElem? (i := 13) rfl)) (by decide) (rm3n l Z a0 hw [] b1 (0 : Int32) (3 : Int32) cz r2 w_STARTS_FORMULA c_w_STARTS_FORMULA h7 I (by decide) Az (inb_of Sz ⟨by decide, by decide⟩) (Has.at Hz (inb_of Sz ⟨by decide, by decide⟩) rfl) rb2 rc2) at_109 rfl (lenOf own_pd2 rfl) rfl rfl rfl (by decide) (by decide) rfl rfl (by decide) (by decide) (own_kv fun v26 h26 q26 => ?_)
        obtain ⟨rfl, e26⟩ := q26
        rw [e26]
        rw [show (if own_form r2 = 0 then (1 : Int32) else 0) = 0 from by simp [own_form, hc72]]
        refine own_istore 114 rfl #[.val (.int p1), .val (.int p2), .val (.int p3), .val (.int p4), .val (.ref b1), .val (.int (0 : Int32)), .val (.int (3 : Int32)), .val (.int (0 : Int32)), .val (.int (0 : Int32))] at_112 rfl ?_
        refine own_iload 116 rfl at_114 rfl ?_
        refine own_iload 118 rfl at_116 rfl ?_
        refine own_icmpNo 121 rfl at_118 (teq (rfl : (0 : Int32) = (0 : Int32))).2 ?_
        refine own_iconst 122 rfl (1 : Int32) at_121 rfl ?_
        refine own_goto 126 at_122 (by decide) (by decide) ?_
        refine own_retN rfl (by simp) at_126 (by decide) (by decide) ?_
        exact ⟨_, rfl, rfl⟩
      · have ihc72 : ¬ r2.toInt = (61 : Int) := own_neq hc72
        refine own_icmpNo 75 rfl at_72 (feq hc72).1 ?_
        refine own_iload 77 rfl at_75 rfl ?_
        refine own_bipush 79 rfl (43 : Int32) at_77 rfl ?_
        by_cases hc79 : r2 = (43 : Int32)
        · have ihc79 : r2.toInt = (43 : Int) := own_eq hc79
          refine own_icmpYes 100 at_79 (teq hc79).1 (by decide) (by decide) ?_
          refine own_iconst 101 rfl (0 : Int32) at_100 rfl ?_
          refine own_istore 103 rfl #[.val (.int p1), .val (.int p2), .val (.int p3), .val (.int p4), .val (.ref b1), .val (.int (0 : Int32)), .val (.int (3 : Int32)), .val (.int (0 : Int32)), .val (.int r2)] at_101 rfl ?_
          refine own_aload 105 rfl at_103 rfl rfl ?_
          refine own_iload 107 rfl at_105 rfl ?_
          refine own_iload 109 rfl at_107 rfl ?_
          obtain ⟨cz, Az, qz, Sz, Nz, Hz, Gz⟩ := id V7
          refine own_callS 112 rfl 1 3 0 [(.ref b1), (.int (0 : Int32)), (.int (3 : Int32))] [] (y := (⟨"com/example/termledger/termledger/Ids", "isPrintableId", "([BII)Z"⟩ : MethodName)) (hw _ (List.mem_of_getElem? (i := 10) rfl)) (hw _ (List.mem_of_getElem? (i := 11) rfl)) (hw _ (List.mem_of_getElem? (i := 12) rfl)) (hw _ (List.mem_of_getElem? (i := 13) rfl)) (by decide) (rm3n l Z a0 hw [] b1 (0 : Int32) (3 : Int32) cz r2 w_STARTS_FORMULA c_w_STARTS_FORMULA h7 I (by decide) Az (inb_of Sz ⟨by decide, by decide⟩) (Has.at Hz (inb_of Sz ⟨by decide, by decide⟩) rfl) rb2 rc2) at_109 rfl (lenOf own_pd2 rfl) rfl rfl rfl (by decide) (by decide) rfl rfl (by decide) (by decide) (own_kv fun v27 h27 q27 => ?_)
          obtain ⟨rfl, e27⟩ := q27
          rw [e27]
          rw [show (if own_form r2 = 0 then (1 : Int32) else 0) = 0 from by simp [own_form, hc72, hc79]]
          refine own_istore 114 rfl #[.val (.int p1), .val (.int p2), .val (.int p3), .val (.int p4), .val (.ref b1), .val (.int (0 : Int32)), .val (.int (3 : Int32)), .val (.int (0 : Int32)), .val (.int (0 : Int32))] at_112 rfl ?_
          refine own_iload 116 rfl at_114 rfl ?_
          refine own_iload 118 rfl at_116 rfl ?_
          refine own_icmpNo 121 rfl at_118 (teq (rfl : (0 : Int32) = (0 : Int32))).2 ?_
          refine own_iconst 122 rfl (1 : Int32) at_121 rfl ?_
          refine own_goto 126 at_122 (by decide) (by decide) ?_
          refine own_retN rfl (by simp) at_126 (by decide) (by decide) ?_
          exact ⟨_, rfl, rfl⟩
        · have ihc79 : ¬ r2.toInt = (43 : Int) := own_neq hc79
          refine own_icmpNo 82 rfl at_79 (feq hc79).1 ?_
          refine own_iload 84 rfl at_82 rfl ?_
          refine own_bipush 86 rfl (45 : Int32) at_84 rfl ?_
          by_cases hc86 : r2 = (45 : Int32)
          · have ihc86 : r2.toInt = (45 : Int) := own_eq hc86
            refine own_icmpYes 100 at_86 (teq hc86).1 (by decide) (by decide) ?_
            refine own_iconst 101 rfl (0 : Int32) at_100 rfl ?_
            refine own_istore 103 rfl #[.val (.int p1), .val (.int p2), .val (.int p3), .val (.int p4), .val (.ref b1), .val (.int (0 : Int32)), .val (.int (3 : Int32)), .val (.int (0 : Int32)), .val (.int r2)] at_101 rfl ?_
            refine own_aload 105 rfl at_103 rfl rfl ?_
            refine own_iload 107 rfl at_105 rfl ?_
            refine own_iload 109 rfl at_107 rfl ?_
            obtain ⟨cz, Az, qz, Sz, Nz, Hz, Gz⟩ := id V7
            refine own_callS 112 rfl 1 3 0 [(.ref b1), (.int (0 : Int32)), (.int (3 : Int32))] [] (y := (⟨"com/example/termledger/termledger/Ids", "isPrintableId", "([BII)Z"⟩ : MethodName)) (hw _ (List.mem_of_getElem? (i := 10) rfl)) (hw _ (List.mem_of_getElem? (i := 11) rfl)) (hw _ (List.mem_of_getElem? (i := 12) rfl)) (hw _ (List.mem_of_getElem? (i := 13) rfl)) (by decide) (rm3n l Z a0 hw [] b1 (0 : Int32) (3 : Int32) cz r2 w_STARTS_FORMULA c_w_STARTS_FORMULA h7 I (by decide) Az (inb_of Sz ⟨by decide, by decide⟩) (Has.at Hz (inb_of Sz ⟨by decide, by decide⟩) rfl) rb2 rc2) at_109 rfl (lenOf own_pd2 rfl) rfl rfl rfl (by decide) (by decide) rfl rfl (by decide) (by decide) (own_kv fun v28 h28 q28 => ?_)
            obtain ⟨rfl, e28⟩ := q28
            rw [e28]
            rw [show (if own_form r2 = 0 then (1 : Int32) else 0) = 0 from by simp [own_form, hc72, hc79, hc86]]
            refine own_istore 114 rfl #[.val (.int p1), .val (.int p2), .val (.int p3), .val (.int p4), .val (.ref b1), .val (.int (0 : Int32)), .val (.int (3 : Int32)), .val (.int (0 : Int32)), .val (.int (0 : Int32))] at_112 rfl ?_
            refine own_iload 116 rfl at_114 rfl ?_
            refine own_iload 118 rfl at_116 rfl ?_
            refine own_icmpNo 121 rfl at_118 (teq (rfl : (0 : Int32) = (0 : Int32))).2 ?_
            refine own_iconst 122 rfl (1 : Int32) at_121 rfl ?_
            refine own_goto 126 at_122 (by decide) (by decide) ?_
            refine own_retN rfl (by simp) at_126 (by decide) (by decide) ?_
            exact ⟨_, rfl, rfl⟩
          · have ihc86 : ¬ r2.toInt = (45 : Int) := own_neq hc86
            refine own_icmpNo 89 rfl at_86 (feq hc86).1 ?_
            refine own_iload 91 rfl at_89 rfl ?_
            refine own_bipush 93 rfl (64 : Int32) at_91 rfl ?_
            by_cases hc93 : r2 = (64 : Int32)
            · have ihc93 : r2.toInt = (64 : Int) := own_eq hc93
              refine own_icmpYes 100 at_93 (teq hc93).1 (by decide) (by decide) ?_
              refine own_iconst 101 rfl (0 : Int32) at_100 rfl ?_
              refine own_istore 103 rfl #[.val (.int p1), .val (.int p2), .val (.int p3), .val (.int p4), .val (.ref b1), .val (.int (0 : Int32)), .val (.int (3 : Int32)), .val (.int (0 : Int32)), .val (.int r2)] at_101 rfl ?_
              refine own_aload 105 rfl at_103 rfl rfl ?_
              refine own_iload 107 rfl at_105 rfl ?_
              refine own_iload 109 rfl at_107 rfl ?_
              obtain ⟨cz, Az, qz, Sz, Nz, Hz, Gz⟩ := id V7
              refine own_callS 112 rfl 1 3 0 [(.ref b1), (.int (0 : Int32)), (.int (3 : Int32))] [] (y := (⟨"com/example/termledger/termledger/Ids", "isPrintableId", "([BII)Z"⟩ : MethodName)) (hw _ (List.mem_of_getElem? (i := 10) rfl)) (hw _ (List.mem_of_getElem? (i := 11) rfl)) (hw _ (List.mem_of_getElem? (i := 12) rfl)) (hw _ (List.mem_of_getElem? (i := 13) rfl)) (by decide) (rm3n l Z a0 hw [] b1 (0 : Int32) (3 : Int32) cz r2 w_STARTS_FORMULA c_w_STARTS_FORMULA h7 I (by decide) Az (inb_of Sz ⟨by decide, by decide⟩) (Has.at Hz (inb_of Sz ⟨by decide, by decide⟩) rfl) rb2 rc2) at_109 rfl (lenOf own_pd2 rfl) rfl rfl rfl (by decide) (by decide) rfl rfl (by decide) (by decide) (own_kv fun v29 h29 q29 => ?_)
              obtain ⟨rfl, e29⟩ := q29
              rw [e29]
              rw [show (if own_form r2 = 0 then (1 : Int32) else 0) = 0 from by simp [own_form, hc72, hc79, hc86, hc93]]
              refine own_istore 114 rfl #[.val (.int p1), .val (.int p2), .val (.int p3), .val (.int p4), .val (.ref b1), .val (.int (0 : Int32)), .val (.int (3 : Int32)), .val (.int (0 : Int32)), .val (.int (0 : Int32))] at_112 rfl ?_
              refine own_iload 116 rfl at_114 rfl ?_
              refine own_iload 118 rfl at_116 rfl ?_
              refine own_icmpNo 121 rfl at_118 (teq (rfl : (0 : Int32) = (0 : Int32))).2 ?_
              refine own_iconst 122 rfl (1 : Int32) at_121 rfl ?_
              refine own_goto 126 at_122 (by decide) (by decide) ?_
              refine own_retN rfl (by simp) at_126 (by decide) (by decide) ?_
              exact ⟨_, rfl, rfl⟩
            · have ihc93 : ¬ r2.toInt = (64 : Int) := own_neq hc93
              refine own_icmpNo 96 rfl at_93 (feq hc93).1 ?_
              refine own_iconst 97 rfl (1 : Int32) at_96 rfl ?_
              refine own_goto 101 at_97 (by decide) (by decide) ?_
              refine own_istore 103 rfl #[.val (.int p1), .val (.int p2), .val (.int p3), .val (.int p4), .val (.ref b1), .val (.int (0 : Int32)), .val (.int (3 : Int32)), .val (.int (1 : Int32)), .val (.int r2)] at_101 rfl ?_
              refine own_aload 105 rfl at_103 rfl rfl ?_
              refine own_iload 107 rfl at_105 rfl ?_
              refine own_iload 109 rfl at_107 rfl ?_
              obtain ⟨cz, Az, qz, Sz, Nz, Hz, Gz⟩ := id V7
              refine own_callS 112 rfl 1 3 0 [(.ref b1), (.int (0 : Int32)), (.int (3 : Int32))] [] (y := (⟨"com/example/termledger/termledger/Ids", "isPrintableId", "([BII)Z"⟩ : MethodName)) (hw _ (List.mem_of_getElem? (i := 10) rfl)) (hw _ (List.mem_of_getElem? (i := 11) rfl)) (hw _ (List.mem_of_getElem? (i := 12) rfl)) (hw _ (List.mem_of_getElem? (i := 13) rfl)) (by decide) (rm3n l Z a0 hw [] b1 (0 : Int32) (3 : Int32) cz r2 w_STARTS_FORMULA c_w_STARTS_FORMULA h7 I (by decide) Az (inb_of Sz ⟨by decide, by decide⟩) (Has.at Hz (inb_of Sz ⟨by decide, by decide⟩) rfl) rb2 rc2) at_109 rfl (lenOf own_pd2 rfl) rfl rfl rfl (by decide) (by decide) rfl rfl (by decide) (by decide) (own_kv fun v30 h30 q30 => ?_)
              obtain ⟨rfl, e30⟩ := q30
              rw [e30]
              rw [show (if own_form r2 = 0 then (1 : Int32) else 0) = 1 from by simp [own_form, hc72, hc79, hc86, hc93]]
              refine own_istore 114 rfl #[.val (.int p1), .val (.int p2), .val (.int p3), .val (.int p4), .val (.ref b1), .val (.int (0 : Int32)), .val (.int (3 : Int32)), .val (.int (1 : Int32)), .val (.int (1 : Int32))] at_112 rfl ?_
              refine own_iload 116 rfl at_114 rfl ?_
              refine own_iload 118 rfl at_116 rfl ?_
              refine own_icmpNo 121 rfl at_118 (teq (rfl : (1 : Int32) = (1 : Int32))).2 ?_
              refine own_iconst 122 rfl (1 : Int32) at_121 rfl ?_
              refine own_goto 126 at_122 (by decide) (by decide) ?_
              refine own_retN rfl (by simp) at_126 (by decide) (by decide) ?_
              exact ⟨_, rfl, rfl⟩
  · have hin_f := (rfl : (1 : Int) = 1)
    have hr_dd : dd = (0 : Int32) ∨ dd = (1 : Int32) ∨ dd = (2 : Int32) ∨ dd = (3 : Int32) := by
      have hrz : dd.toInt = 0 ∨ dd.toInt = 1 ∨ dd.toInt = 2 ∨ dd.toInt = 3 := by omega
      rcases hrz with q | q | q | q
      · exact Or.inl (own_eq' q)
      · exact Or.inr (Or.inl (own_eq' q))
      · exact Or.inr (Or.inr (Or.inl (own_eq' q)))
      · exact Or.inr (Or.inr (Or.inr (own_eq' q)))
    rcases hr_dd with rfl | rfl | rfl | rfl
    · have hin_dd := (rfl : (0 : Int) = 0)
      refine own_iadd 43 rfl at_42 ?_
      rw [show ((1 : Int32) + (0 : Int32)) = (1 : Int32) from by decide]
      refine own_callS 46 rfl 1 3 0 [(.int (3 : Int32)), (.int (1 : Int32))] [] (y := (⟨"java/lang/Math", "min", "(II)I"⟩ : MethodName)) (hw _ (List.mem_of_getElem? (i := 6) rfl)) (hw _ (List.mem_of_getElem? (i := 7) rfl)) (hw _ (List.mem_of_getElem? (i := 8) rfl)) (hw _ (List.mem_of_getElem? (i := 9) rfl)) (by decide) (rm2 l Z a0 hw [] (3 : Int32) (1 : Int32)  h7 ) at_43 rfl (lenOf own_pd1 rfl) rfl rfl rfl (by decide) (by decide) rfl rfl (by decide) (by decide) (own_kv fun v31 h31 q31 => ?_)
      obtain ⟨rfl, e31⟩ := q31
      rw [e31]
      rw [show (if (1 : Int32) < (3 : Int32) then (1 : Int32) else (3 : Int32)) = (1 : Int32) from by decide]
      refine own_istore 48 rfl #[.val (.int p1), .val (.int p2), .val (.int p3), .val (.int p4), .val (.ref b1), .val (.int (1 : Int32)), .val (.int (1 : Int32)), .unset, .unset] at_46 rfl ?_
      refine own_iload 50 rfl at_48 rfl ?_
      refine own_iload 52 rfl at_50 rfl ?_
      refine own_icmpNo 55 rfl at_52 (teq (rfl : (1 : Int32) = (1 : Int32))).2 ?_
      refine own_iconst 56 rfl (1 : Int32) at_55 rfl ?_
      refine own_istore 58 rfl #[.val (.int p1), .val (.int p2), .val (.int p3), .val (.int p4), .val (.ref b1), .val (.int (1 : Int32)), .val (.int (1 : Int32)), .val (.int (1 : Int32)), .unset] at_56 rfl ?_
      refine own_goto 103 at_58 (by decide) (by decide) ?_
      refine own_aload 105 rfl at_103 rfl rfl ?_
      refine own_iload 107 rfl at_105 rfl ?_
      refine own_iload 109 rfl at_107 rfl ?_
      refine own_callS 112 rfl 1 3 0 [(.ref b1), (.int (1 : Int32)), (.int (1 : Int32))] [] (y := (⟨"com/example/termledger/termledger/Ids", "isPrintableId", "([BII)Z"⟩ : MethodName)) (hw _ (List.mem_of_getElem? (i := 10) rfl)) (hw _ (List.mem_of_getElem? (i := 11) rfl)) (hw _ (List.mem_of_getElem? (i := 12) rfl)) (hw _ (List.mem_of_getElem? (i := 13) rfl)) (by decide) (rm3e l Z a0 hw [] b1 (1 : Int32) w_STARTS_FORMULA c_w_STARTS_FORMULA h7 I) at_109 rfl (lenOf own_pd2 rfl) rfl rfl rfl (by decide) (by decide) rfl rfl (by decide) (by decide) (own_kv fun v32 h32 q32 => ?_)
      obtain ⟨rfl, e32⟩ := q32
      rw [e32]
      refine own_istore 114 rfl #[.val (.int p1), .val (.int p2), .val (.int p3), .val (.int p4), .val (.ref b1), .val (.int (1 : Int32)), .val (.int (1 : Int32)), .val (.int (1 : Int32)), .val (.int (1 : Int32))] at_112 rfl ?_
      refine own_iload 116 rfl at_114 rfl ?_
      refine own_iload 118 rfl at_116 rfl ?_
      refine own_icmpNo 121 rfl at_118 (teq (rfl : (1 : Int32) = (1 : Int32))).2 ?_
      refine own_iconst 122 rfl (1 : Int32) at_121 rfl ?_
      refine own_goto 126 at_122 (by decide) (by decide) ?_
      refine own_retN rfl (by simp) at_126 (by decide) (by decide) ?_
      exact ⟨_, rfl, rfl⟩
    · have hin_dd := (rfl : (1 : Int) = 1)
      refine own_iadd 43 rfl at_42 ?_
      rw [show ((1 : Int32) + (1 : Int32)) = (2 : Int32) from by decide]
      refine own_callS 46 rfl 1 3 0 [(.int (3 : Int32)), (.int (2 : Int32))] [] (y := (⟨"java/lang/Math", "min", "(II)I"⟩ : MethodName)) (hw _ (List.mem_of_getElem? (i := 6) rfl)) (hw _ (List.mem_of_getElem? (i := 7) rfl)) (hw _ (List.mem_of_getElem? (i := 8) rfl)) (hw _ (List.mem_of_getElem? (i := 9) rfl)) (by decide) (rm2 l Z a0 hw [] (3 : Int32) (2 : Int32)  h7 ) at_43 rfl (lenOf own_pd1 rfl) rfl rfl rfl (by decide) (by decide) rfl rfl (by decide) (by decide) (own_kv fun v33 h33 q33 => ?_)
      obtain ⟨rfl, e33⟩ := q33
      rw [e33]
      rw [show (if (2 : Int32) < (3 : Int32) then (2 : Int32) else (3 : Int32)) = (2 : Int32) from by decide]
      refine own_istore 48 rfl #[.val (.int p1), .val (.int p2), .val (.int p3), .val (.int p4), .val (.ref b1), .val (.int (1 : Int32)), .val (.int (2 : Int32)), .unset, .unset] at_46 rfl ?_
      refine own_iload 50 rfl at_48 rfl ?_
      refine own_iload 52 rfl at_50 rfl ?_
      refine own_icmpYes 61 at_52 (feq (by decide : ¬ ((1 : Int32) = (2 : Int32)))).2 (by decide) (by decide) ?_
      refine own_aload 63 rfl at_61 rfl rfl ?_
      refine own_iload 65 rfl at_63 rfl ?_
      obtain ⟨c34, A34, q34, S34, N34, H34, G34⟩ := id V7
      refine own_baload 66 rfl A34 (inb_of S34 ⟨by decide, by decide⟩) (Has.at H34 (inb_of S34 ⟨by decide, by decide⟩) rfl) at_65 ?_
      refine own_istore 68 rfl #[.val (.int p1), .val (.int p2), .val (.int p3), .val (.int p4), .val (.ref b1), .val (.int (1 : Int32)), .val (.int (2 : Int32)), .unset, .val (.int r4)] at_66 rfl ?_
      refine own_iload 70 rfl at_68 rfl ?_
      refine own_bipush 72 rfl (61 : Int32) at_70 rfl ?_
      by_cases hc72 : r4 = (61 : Int32)
      · have ihc72 : r4.toInt = (61 : Int) := own_eq hc72
        refine own_icmpYes 100 at_72 (teq hc72).1 (by decide) (by decide) ?_
        refine own_iconst 101 rfl (0 : Int32) at_100 rfl ?_
        refine own_istore 103 rfl #[.val (.int p1), .val (.int p2), .val (.int p3), .val (.int p4), .val (.ref b1), .val (.int (1 : Int32)), .val (.int (2 : Int32)), .val (.int (0 : Int32)), .val (.int r4)] at_101 rfl ?_
        refine own_aload 105 rfl at_103 rfl rfl ?_
        refine own_iload 107 rfl at_105 rfl ?_
        refine own_iload 109 rfl at_107 rfl ?_
        obtain ⟨cz, Az, qz, Sz, Nz, Hz, Gz⟩ := id V7
        refine own_callS 112 rfl 1 3 0 [(.ref b1), (.int (1 : Int32)), (.int (2 : Int32))] [] (y := (⟨"com/example/termledger/termledger/Ids", "isPrintableId", "([BII)Z"⟩ : MethodName)) (hw _ (List.mem_of_getElem? (i := 10) rfl)) (hw _ (List.mem_of_getElem? (i := 11) rfl)) (hw _ (List.mem_of_getElem? (i := 12) rfl)) (hw _ (List.mem_of_getElem? (i := 13) rfl)) (by decide) (rm3n l Z a0 hw [] b1 (1 : Int32) (2 : Int32) cz r4 w_STARTS_FORMULA c_w_STARTS_FORMULA h7 I (by decide) Az (inb_of Sz ⟨by decide, by decide⟩) (Has.at Hz (inb_of Sz ⟨by decide, by decide⟩) rfl) rb4 rc4) at_109 rfl (lenOf own_pd2 rfl) rfl rfl rfl (by decide) (by decide) rfl rfl (by decide) (by decide) (own_kv fun v35 h35 q35 => ?_)
        obtain ⟨rfl, e35⟩ := q35
        rw [e35]
        rw [show (if own_form r4 = 0 then (1 : Int32) else 0) = 0 from by simp [own_form, hc72]]
        refine own_istore 114 rfl #[.val (.int p1), .val (.int p2), .val (.int p3), .val (.int p4), .val (.ref b1), .val (.int (1 : Int32)), .val (.int (2 : Int32)), .val (.int (0 : Int32)), .val (.int (0 : Int32))] at_112 rfl ?_
        refine own_iload 116 rfl at_114 rfl ?_
        refine own_iload 118 rfl at_116 rfl ?_
        refine own_icmpNo 121 rfl at_118 (teq (rfl : (0 : Int32) = (0 : Int32))).2 ?_
        refine own_iconst 122 rfl (1 : Int32) at_121 rfl ?_
        refine own_goto 126 at_122 (by decide) (by decide) ?_
        refine own_retN rfl (by simp) at_126 (by decide) (by decide) ?_
        exact ⟨_, rfl, rfl⟩
      · have ihc72 : ¬ r4.toInt = (61 : Int) := own_neq hc72
        refine own_icmpNo 75 rfl at_72 (feq hc72).1 ?_
        refine own_iload 77 rfl at_75 rfl ?_
        refine own_bipush 79 rfl (43 : Int32) at_77 rfl ?_
        by_cases hc79 : r4 = (43 : Int32)
        · have ihc79 : r4.toInt = (43 : Int) := own_eq hc79
          refine own_icmpYes 100 at_79 (teq hc79).1 (by decide) (by decide) ?_
          refine own_iconst 101 rfl (0 : Int32) at_100 rfl ?_
          refine own_istore 103 rfl #[.val (.int p1), .val (.int p2), .val (.int p3), .val (.int p4), .val (.ref b1), .val (.int (1 : Int32)), .val (.int (2 : Int32)), .val (.int (0 : Int32)), .val (.int r4)] at_101 rfl ?_
          refine own_aload 105 rfl at_103 rfl rfl ?_
          refine own_iload 107 rfl at_105 rfl ?_
          refine own_iload 109 rfl at_107 rfl ?_
          obtain ⟨cz, Az, qz, Sz, Nz, Hz, Gz⟩ := id V7
          refine own_callS 112 rfl 1 3 0 [(.ref b1), (.int (1 : Int32)), (.int (2 : Int32))] [] (y := (⟨"com/example/termledger/termledger/Ids", "isPrintableId", "([BII)Z"⟩ : MethodName)) (hw _ (List.mem_of_getElem? (i := 10) rfl)) (hw _ (List.mem_of_getElem? (i := 11) rfl)) (hw _ (List.mem_of_getElem? (i := 12) rfl)) (hw _ (List.mem_of_getElem? (i := 13) rfl)) (by decide) (rm3n l Z a0 hw [] b1 (1 : Int32) (2 : Int32) cz r4 w_STARTS_FORMULA c_w_STARTS_FORMULA h7 I (by decide) Az (inb_of Sz ⟨by decide, by decide⟩) (Has.at Hz (inb_of Sz ⟨by decide, by decide⟩) rfl) rb4 rc4) at_109 rfl (lenOf own_pd2 rfl) rfl rfl rfl (by decide) (by decide) rfl rfl (by decide) (by decide) (own_kv fun v36 h36 q36 => ?_)
          obtain ⟨rfl, e36⟩ := q36
          rw [e36]
          rw [show (if own_form r4 = 0 then (1 : Int32) else 0) = 0 from by simp [own_form, hc72, hc79]]
          refine own_istore 114 rfl #[.val (.int p1), .val (.int p2), .val (.int p3), .val (.int p4), .val (.ref b1), .val (.int (1 : Int32)), .val (.int (2 : Int32)), .val (.int (0 : Int32)), .val (.int (0 : Int32))] at_112 rfl ?_
          refine own_iload 116 rfl at_114 rfl ?_
          refine own_iload 118 rfl at_116 rfl ?_
          refine own_icmpNo 121 rfl at_118 (teq (rfl : (0 : Int32) = (0 : Int32))).2 ?_
          refine own_iconst 122 rfl (1 : Int32) at_121 rfl ?_
          refine own_goto 126 at_122 (by decide) (by decide) ?_
          refine own_retN rfl (by simp) at_126 (by decide) (by decide) ?_
          exact ⟨_, rfl, rfl⟩
        · have ihc79 : ¬ r4.toInt = (43 : Int) := own_neq hc79
          refine own_icmpNo 82 rfl at_79 (feq hc79).1 ?_
          refine own_iload 84 rfl at_82 rfl ?_
          refine own_bipush 86 rfl (45 : Int32) at_84 rfl ?_
          by_cases hc86 : r4 = (45 : Int32)
          · have ihc86 : r4.toInt = (45 : Int) := own_eq hc86
            refine own_icmpYes 100 at_86 (teq hc86).1 (by decide) (by decide) ?_
            refine own_iconst 101 rfl (0 : Int32) at_100 rfl ?_
            refine own_istore 103 rfl #[.val (.int p1), .val (.int p2), .val (.int p3), .val (.int p4), .val (.ref b1), .val (.int (1 : Int32)), .val (.int (2 : Int32)), .val (.int (0 : Int32)), .val (.int r4)] at_101 rfl ?_
            refine own_aload 105 rfl at_103 rfl rfl ?_
            refine own_iload 107 rfl at_105 rfl ?_
            refine own_iload 109 rfl at_107 rfl ?_
            obtain ⟨cz, Az, qz, Sz, Nz, Hz, Gz⟩ := id V7
            refine own_callS 112 rfl 1 3 0 [(.ref b1), (.int (1 : Int32)), (.int (2 : Int32))] [] (y := (⟨"com/example/termledger/termledger/Ids", "isPrintableId", "([BII)Z"⟩ : MethodName)) (hw _ (List.mem_of_getElem? (i := 10) rfl)) (hw _ (List.mem_of_getElem? (i := 11) rfl)) (hw _ (List.mem_of_getElem? (i := 12) rfl)) (hw _ (List.mem_of_getElem? (i := 13) rfl)) (by decide) (rm3n l Z a0 hw [] b1 (1 : Int32) (2 : Int32) cz r4 w_STARTS_FORMULA c_w_STARTS_FORMULA h7 I (by decide) Az (inb_of Sz ⟨by decide, by decide⟩) (Has.at Hz (inb_of Sz ⟨by decide, by decide⟩) rfl) rb4 rc4) at_109 rfl (lenOf own_pd2 rfl) rfl rfl rfl (by decide) (by decide) rfl rfl (by decide) (by decide) (own_kv fun v37 h37 q37 => ?_)
            obtain ⟨rfl, e37⟩ := q37
            rw [e37]
            rw [show (if own_form r4 = 0 then (1 : Int32) else 0) = 0 from by simp [own_form, hc72, hc79, hc86]]
            refine own_istore 114 rfl #[.val (.int p1), .val (.int p2), .val (.int p3), .val (.int p4), .val (.ref b1), .val (.int (1 : Int32)), .val (.int (2 : Int32)), .val (.int (0 : Int32)), .val (.int (0 : Int32))] at_112 rfl ?_
            refine own_iload 116 rfl at_114 rfl ?_
            refine own_iload 118 rfl at_116 rfl ?_
            refine own_icmpNo 121 rfl at_118 (teq (rfl : (0 : Int32) = (0 : Int32))).2 ?_
            refine own_iconst 122 rfl (1 : Int32) at_121 rfl ?_
            refine own_goto 126 at_122 (by decide) (by decide) ?_
            refine own_retN rfl (by simp) at_126 (by decide) (by decide) ?_
            exact ⟨_, rfl, rfl⟩
          · have ihc86 : ¬ r4.toInt = (45 : Int) := own_neq hc86
            refine own_icmpNo 89 rfl at_86 (feq hc86).1 ?_
            refine own_iload 91 rfl at_89 rfl ?_
            refine own_bipush 93 rfl (64 : Int32) at_91 rfl ?_
            by_cases hc93 : r4 = (64 : Int32)
            · have ihc93 : r4.toInt = (64 : Int) := own_eq hc93
              refine own_icmpYes 100 at_93 (teq hc93).1 (by decide) (by decide) ?_
              refine own_iconst 101 rfl (0 : Int32) at_100 rfl ?_
              refine own_istore 103 rfl #[.val (.int p1), .val (.int p2), .val (.int p3), .val (.int p4), .val (.ref b1), .val (.int (1 : Int32)), .val (.int (2 : Int32)), .val (.int (0 : Int32)), .val (.int r4)] at_101 rfl ?_
              refine own_aload 105 rfl at_103 rfl rfl ?_
              refine own_iload 107 rfl at_105 rfl ?_
              refine own_iload 109 rfl at_107 rfl ?_
              obtain ⟨cz, Az, qz, Sz, Nz, Hz, Gz⟩ := id V7
              refine own_callS 112 rfl 1 3 0 [(.ref b1), (.int (1 : Int32)), (.int (2 : Int32))] [] (y := (⟨"com/example/termledger/termledger/Ids", "isPrintableId", "([BII)Z"⟩ : MethodName)) (hw _ (List.mem_of_getElem? (i := 10) rfl)) (hw _ (List.mem_of_getElem? (i := 11) rfl)) (hw _ (List.mem_of_getElem? (i := 12) rfl)) (hw _ (List.mem_of_getElem? (i := 13) rfl)) (by decide) (rm3n l Z a0 hw [] b1 (1 : Int32) (2 : Int32) cz r4 w_STARTS_FORMULA c_w_STARTS_FORMULA h7 I (by decide) Az (inb_of Sz ⟨by decide, by decide⟩) (Has.at Hz (inb_of Sz ⟨by decide, by decide⟩) rfl) rb4 rc4) at_109 rfl (lenOf own_pd2 rfl) rfl rfl rfl (by decide) (by decide) rfl rfl (by decide) (by decide) (own_kv fun v38 h38 q38 => ?_)
              obtain ⟨rfl, e38⟩ := q38
              rw [e38]
              rw [show (if own_form r4 = 0 then (1 : Int32) else 0) = 0 from by simp [own_form, hc72, hc79, hc86, hc93]]
              refine own_istore 114 rfl #[.val (.int p1), .val (.int p2), .val (.int p3), .val (.int p4), .val (.ref b1), .val (.int (1 : Int32)), .val (.int (2 : Int32)), .val (.int (0 : Int32)), .val (.int (0 : Int32))] at_112 rfl ?_
              refine own_iload 116 rfl at_114 rfl ?_
              refine own_iload 118 rfl at_116 rfl ?_
              refine own_icmpNo 121 rfl at_118 (teq (rfl : (0 : Int32) = (0 : Int32))).2 ?_
              refine own_iconst 122 rfl (1 : Int32) at_121 rfl ?_
              refine own_goto 126 at_122 (by decide) (by decide) ?_
              refine own_retN rfl (by simp) at_126 (by decide) (by decide) ?_
              exact ⟨_, rfl, rfl⟩
            · have ihc93 : ¬ r4.toInt = (64 : Int) := own_neq hc93
              refine own_icmpNo 96 rfl at_93 (feq hc93).1 ?_
              refine own_iconst 97 rfl (1 : Int32) at_96 rfl ?_
              refine own_goto 101 at_97 (by decide) (by decide) ?_
              refine own_istore 103 rfl #[.val (.int p1), .val (.int p2), .val (.int p3), .val (.int p4), .val (.ref b1), .val (.int (1 : Int32)), .val (.int (2 : Int32)), .val (.int (1 : Int32)), .val (.int r4)] at_101 rfl ?_
              refine own_aload 105 rfl at_103 rfl rfl ?_
              refine own_iload 107 rfl at_105 rfl ?_
              refine own_iload 109 rfl at_107 rfl ?_
              obtain ⟨cz, Az, qz, Sz, Nz, Hz, Gz⟩ := id V7
              refine own_callS 112 rfl 1 3 0 [(.ref b1), (.int (1 : Int32)), (.int (2 : Int32))] [] (y := (⟨"com/example/termledger/termledger/Ids", "isPrintableId", "([BII)Z"⟩ : MethodName)) (hw _ (List.mem_of_getElem? (i := 10) rfl)) (hw _ (List.mem_of_getElem? (i := 11) rfl)) (hw _ (List.mem_of_getElem? (i := 12) rfl)) (hw _ (List.mem_of_getElem? (i := 13) rfl)) (by decide) (rm3n l Z a0 hw [] b1 (1 : Int32) (2 : Int32) cz r4 w_STARTS_FORMULA c_w_STARTS_FORMULA h7 I (by decide) Az (inb_of Sz ⟨by decide, by decide⟩) (Has.at Hz (inb_of Sz ⟨by decide, by decide⟩) rfl) rb4 rc4) at_109 rfl (lenOf own_pd2 rfl) rfl rfl rfl (by decide) (by decide) rfl rfl (by decide) (by decide) (own_kv fun v39 h39 q39 => ?_)
              obtain ⟨rfl, e39⟩ := q39
              rw [e39]
              rw [show (if own_form r4 = 0 then (1 : Int32) else 0) = 1 from by simp [own_form, hc72, hc79, hc86, hc93]]
              refine own_istore 114 rfl #[.val (.int p1), .val (.int p2), .val (.int p3), .val (.int p4), .val (.ref b1), .val (.int (1 : Int32)), .val (.int (2 : Int32)), .val (.int (1 : Int32)), .val (.int (1 : Int32))] at_112 rfl ?_
              refine own_iload 116 rfl at_114 rfl ?_
              refine own_iload 118 rfl at_116 rfl ?_
              refine own_icmpNo 121 rfl at_118 (teq (rfl : (1 : Int32) = (1 : Int32))).2 ?_
              refine own_iconst 122 rfl (1 : Int32) at_121 rfl ?_
              refine own_goto 126 at_122 (by decide) (by decide) ?_
              refine own_retN rfl (by simp) at_126 (by decide) (by decide) ?_
              exact ⟨_, rfl, rfl⟩
    · have hin_dd := (rfl : (2 : Int) = 2)
      refine own_iadd 43 rfl at_42 ?_
      rw [show ((1 : Int32) + (2 : Int32)) = (3 : Int32) from by decide]
      refine own_callS 46 rfl 1 3 0 [(.int (3 : Int32)), (.int (3 : Int32))] [] (y := (⟨"java/lang/Math", "min", "(II)I"⟩ : MethodName)) (hw _ (List.mem_of_getElem? (i := 6) rfl)) (hw _ (List.mem_of_getElem? (i := 7) rfl)) (hw _ (List.mem_of_getElem? (i := 8) rfl)) (hw _ (List.mem_of_getElem? (i := 9) rfl)) (by decide) (rm2 l Z a0 hw [] (3 : Int32) (3 : Int32)  h7 ) at_43 rfl (lenOf own_pd1 rfl) rfl rfl rfl (by decide) (by decide) rfl rfl (by decide) (by decide) (own_kv fun v40 h40 q40 => ?_)
      obtain ⟨rfl, e40⟩ := q40
      rw [e40]
      rw [show (if (3 : Int32) < (3 : Int32) then (3 : Int32) else (3 : Int32)) = (3 : Int32) from by decide]
      refine own_istore 48 rfl #[.val (.int p1), .val (.int p2), .val (.int p3), .val (.int p4), .val (.ref b1), .val (.int (1 : Int32)), .val (.int (3 : Int32)), .unset, .unset] at_46 rfl ?_
      refine own_iload 50 rfl at_48 rfl ?_
      refine own_iload 52 rfl at_50 rfl ?_
      refine own_icmpYes 61 at_52 (feq (by decide : ¬ ((1 : Int32) = (3 : Int32)))).2 (by decide) (by decide) ?_
      refine own_aload 63 rfl at_61 rfl rfl ?_
      refine own_iload 65 rfl at_63 rfl ?_
      obtain ⟨c41, A41, q41, S41, N41, H41, G41⟩ := id V7
      refine own_baload 66 rfl A41 (inb_of S41 ⟨by decide, by decide⟩) (Has.at H41 (inb_of S41 ⟨by decide, by decide⟩) rfl) at_65 ?_
      refine own_istore 68 rfl #[.val (.int p1), .val (.int p2), .val (.int p3), .val (.int p4), .val (.ref b1), .val (.int (1 : Int32)), .val (.int (3 : Int32)), .unset, .val (.int r4)] at_66 rfl ?_
      refine own_iload 70 rfl at_68 rfl ?_
      refine own_bipush 72 rfl (61 : Int32) at_70 rfl ?_
      by_cases hc72 : r4 = (61 : Int32)
      · have ihc72 : r4.toInt = (61 : Int) := own_eq hc72
        refine own_icmpYes 100 at_72 (teq hc72).1 (by decide) (by decide) ?_
        refine own_iconst 101 rfl (0 : Int32) at_100 rfl ?_
        refine own_istore 103 rfl #[.val (.int p1), .val (.int p2), .val (.int p3), .val (.int p4), .val (.ref b1), .val (.int (1 : Int32)), .val (.int (3 : Int32)), .val (.int (0 : Int32)), .val (.int r4)] at_101 rfl ?_
        refine own_aload 105 rfl at_103 rfl rfl ?_
        refine own_iload 107 rfl at_105 rfl ?_
        refine own_iload 109 rfl at_107 rfl ?_
        obtain ⟨cz, Az, qz, Sz, Nz, Hz, Gz⟩ := id V7
        refine own_callS 112 rfl 1 3 0 [(.ref b1), (.int (1 : Int32)), (.int (3 : Int32))] [] (y := (⟨"com/example/termledger/termledger/Ids", "isPrintableId", "([BII)Z"⟩ : MethodName)) (hw _ (List.mem_of_getElem? (i := 10) rfl)) (hw _ (List.mem_of_getElem? (i := 11) rfl)) (hw _ (List.mem_of_getElem? (i := 12) rfl)) (hw _ (List.mem_of_getElem? (i := 13) rfl)) (by decide) (rm3n l Z a0 hw [] b1 (1 : Int32) (3 : Int32) cz r4 w_STARTS_FORMULA c_w_STARTS_FORMULA h7 I (by decide) Az (inb_of Sz ⟨by decide, by decide⟩) (Has.at Hz (inb_of Sz ⟨by decide, by decide⟩) rfl) rb4 rc4) at_109 rfl (lenOf own_pd2 rfl) rfl rfl rfl (by decide) (by decide) rfl rfl (by decide) (by decide) (own_kv fun v42 h42 q42 => ?_)
        obtain ⟨rfl, e42⟩ := q42
        rw [e42]
        rw [show (if own_form r4 = 0 then (1 : Int32) else 0) = 0 from by simp [own_form, hc72]]
        refine own_istore 114 rfl #[.val (.int p1), .val (.int p2), .val (.int p3), .val (.int p4), .val (.ref b1), .val (.int (1 : Int32)), .val (.int (3 : Int32)), .val (.int (0 : Int32)), .val (.int (0 : Int32))] at_112 rfl ?_
        refine own_iload 116 rfl at_114 rfl ?_
        refine own_iload 118 rfl at_116 rfl ?_
        refine own_icmpNo 121 rfl at_118 (teq (rfl : (0 : Int32) = (0 : Int32))).2 ?_
        refine own_iconst 122 rfl (1 : Int32) at_121 rfl ?_
        refine own_goto 126 at_122 (by decide) (by decide) ?_
        refine own_retN rfl (by simp) at_126 (by decide) (by decide) ?_
        exact ⟨_, rfl, rfl⟩
      · have ihc72 : ¬ r4.toInt = (61 : Int) := own_neq hc72
        refine own_icmpNo 75 rfl at_72 (feq hc72).1 ?_
        refine own_iload 77 rfl at_75 rfl ?_
        refine own_bipush 79 rfl (43 : Int32) at_77 rfl ?_
        by_cases hc79 : r4 = (43 : Int32)
        · have ihc79 : r4.toInt = (43 : Int) := own_eq hc79
          refine own_icmpYes 100 at_79 (teq hc79).1 (by decide) (by decide) ?_
          refine own_iconst 101 rfl (0 : Int32) at_100 rfl ?_
          refine own_istore 103 rfl #[.val (.int p1), .val (.int p2), .val (.int p3), .val (.int p4), .val (.ref b1), .val (.int (1 : Int32)), .val (.int (3 : Int32)), .val (.int (0 : Int32)), .val (.int r4)] at_101 rfl ?_
          refine own_aload 105 rfl at_103 rfl rfl ?_
          refine own_iload 107 rfl at_105 rfl ?_
          refine own_iload 109 rfl at_107 rfl ?_
          obtain ⟨cz, Az, qz, Sz, Nz, Hz, Gz⟩ := id V7
          refine own_callS 112 rfl 1 3 0 [(.ref b1), (.int (1 : Int32)), (.int (3 : Int32))] [] (y := (⟨"com/example/termledger/termledger/Ids", "isPrintableId", "([BII)Z"⟩ : MethodName)) (hw _ (List.mem_of_getElem? (i := 10) rfl)) (hw _ (List.mem_of_getElem? (i := 11) rfl)) (hw _ (List.mem_of_getElem? (i := 12) rfl)) (hw _ (List.mem_of_getElem? (i := 13) rfl)) (by decide) (rm3n l Z a0 hw [] b1 (1 : Int32) (3 : Int32) cz r4 w_STARTS_FORMULA c_w_STARTS_FORMULA h7 I (by decide) Az (inb_of Sz ⟨by decide, by decide⟩) (Has.at Hz (inb_of Sz ⟨by decide, by decide⟩) rfl) rb4 rc4) at_109 rfl (lenOf own_pd2 rfl) rfl rfl rfl (by decide) (by decide) rfl rfl (by decide) (by decide) (own_kv fun v43 h43 q43 => ?_)
          obtain ⟨rfl, e43⟩ := q43
          rw [e43]
          rw [show (if own_form r4 = 0 then (1 : Int32) else 0) = 0 from by simp [own_form, hc72, hc79]]
          refine own_istore 114 rfl #[.val (.int p1), .val (.int p2), .val (.int p3), .val (.int p4), .val (.ref b1), .val (.int (1 : Int32)), .val (.int (3 : Int32)), .val (.int (0 : Int32)), .val (.int (0 : Int32))] at_112 rfl ?_
          refine own_iload 116 rfl at_114 rfl ?_
          refine own_iload 118 rfl at_116 rfl ?_
          refine own_icmpNo 121 rfl at_118 (teq (rfl : (0 : Int32) = (0 : Int32))).2 ?_
          refine own_iconst 122 rfl (1 : Int32) at_121 rfl ?_
          refine own_goto 126 at_122 (by decide) (by decide) ?_
          refine own_retN rfl (by simp) at_126 (by decide) (by decide) ?_
          exact ⟨_, rfl, rfl⟩
        · have ihc79 : ¬ r4.toInt = (43 : Int) := own_neq hc79
          refine own_icmpNo 82 rfl at_79 (feq hc79).1 ?_
          refine own_iload 84 rfl at_82 rfl ?_
          refine own_bipush 86 rfl (45 : Int32) at_84 rfl ?_
          by_cases hc86 : r4 = (45 : Int32)
          · have ihc86 : r4.toInt = (45 : Int) := own_eq hc86
            refine own_icmpYes 100 at_86 (teq hc86).1 (by decide) (by decide) ?_
            refine own_iconst 101 rfl (0 : Int32) at_100 rfl ?_
            refine own_istore 103 rfl #[.val (.int p1), .val (.int p2), .val (.int p3), .val (.int p4), .val (.ref b1), .val (.int (1 : Int32)), .val (.int (3 : Int32)), .val (.int (0 : Int32)), .val (.int r4)] at_101 rfl ?_
            refine own_aload 105 rfl at_103 rfl rfl ?_
            refine own_iload 107 rfl at_105 rfl ?_
            refine own_iload 109 rfl at_107 rfl ?_
            obtain ⟨cz, Az, qz, Sz, Nz, Hz, Gz⟩ := id V7
            refine own_callS 112 rfl 1 3 0 [(.ref b1), (.int (1 : Int32)), (.int (3 : Int32))] [] (y := (⟨"com/example/termledger/termledger/Ids", "isPrintableId", "([BII)Z"⟩ : MethodName)) (hw _ (List.mem_of_getElem? (i := 10) rfl)) (hw _ (List.mem_of_getElem? (i := 11) rfl)) (hw _ (List.mem_of_getElem? (i := 12) rfl)) (hw _ (List.mem_of_getElem? (i := 13) rfl)) (by decide) (rm3n l Z a0 hw [] b1 (1 : Int32) (3 : Int32) cz r4 w_STARTS_FORMULA c_w_STARTS_FORMULA h7 I (by decide) Az (inb_of Sz ⟨by decide, by decide⟩) (Has.at Hz (inb_of Sz ⟨by decide, by decide⟩) rfl) rb4 rc4) at_109 rfl (lenOf own_pd2 rfl) rfl rfl rfl (by decide) (by decide) rfl rfl (by decide) (by decide) (own_kv fun v44 h44 q44 => ?_)
            obtain ⟨rfl, e44⟩ := q44
            rw [e44]
            rw [show (if own_form r4 = 0 then (1 : Int32) else 0) = 0 from by simp [own_form, hc72, hc79, hc86]]
            refine own_istore 114 rfl #[.val (.int p1), .val (.int p2), .val (.int p3), .val (.int p4), .val (.ref b1), .val (.int (1 : Int32)), .val (.int (3 : Int32)), .val (.int (0 : Int32)), .val (.int (0 : Int32))] at_112 rfl ?_
            refine own_iload 116 rfl at_114 rfl ?_
            refine own_iload 118 rfl at_116 rfl ?_
            refine own_icmpNo 121 rfl at_118 (teq (rfl : (0 : Int32) = (0 : Int32))).2 ?_
            refine own_iconst 122 rfl (1 : Int32) at_121 rfl ?_
            refine own_goto 126 at_122 (by decide) (by decide) ?_
            refine own_retN rfl (by simp) at_126 (by decide) (by decide) ?_
            exact ⟨_, rfl, rfl⟩
          · have ihc86 : ¬ r4.toInt = (45 : Int) := own_neq hc86
            refine own_icmpNo 89 rfl at_86 (feq hc86).1 ?_
            refine own_iload 91 rfl at_89 rfl ?_
            refine own_bipush 93 rfl (64 : Int32) at_91 rfl ?_
            by_cases hc93 : r4 = (64 : Int32)
            · have ihc93 : r4.toInt = (64 : Int) := own_eq hc93
              refine own_icmpYes 100 at_93 (teq hc93).1 (by decide) (by decide) ?_
              refine own_iconst 101 rfl (0 : Int32) at_100 rfl ?_
              refine own_istore 103 rfl #[.val (.int p1), .val (.int p2), .val (.int p3), .val (.int p4), .val (.ref b1), .val (.int (1 : Int32)), .val (.int (3 : Int32)), .val (.int (0 : Int32)), .val (.int r4)] at_101 rfl ?_
              refine own_aload 105 rfl at_103 rfl rfl ?_
              refine own_iload 107 rfl at_105 rfl ?_
              refine own_iload 109 rfl at_107 rfl ?_
              obtain ⟨cz, Az, qz, Sz, Nz, Hz, Gz⟩ := id V7
              refine own_callS 112 rfl 1 3 0 [(.ref b1), (.int (1 : Int32)), (.int (3 : Int32))] [] (y := (⟨"com/example/termledger/termledger/Ids", "isPrintableId", "([BII)Z"⟩ : MethodName)) (hw _ (List.mem_of_getElem? (i := 10) rfl)) (hw _ (List.mem_of_getElem? (i := 11) rfl)) (hw _ (List.mem_of_getElem? (i := 12) rfl)) (hw _ (List.mem_of_getElem? (i := 13) rfl)) (by decide) (rm3n l Z a0 hw [] b1 (1 : Int32) (3 : Int32) cz r4 w_STARTS_FORMULA c_w_STARTS_FORMULA h7 I (by decide) Az (inb_of Sz ⟨by decide, by decide⟩) (Has.at Hz (inb_of Sz ⟨by decide, by decide⟩) rfl) rb4 rc4) at_109 rfl (lenOf own_pd2 rfl) rfl rfl rfl (by decide) (by decide) rfl rfl (by decide) (by decide) (own_kv fun v45 h45 q45 => ?_)
              obtain ⟨rfl, e45⟩ := q45
              rw [e45]
              rw [show (if own_form r4 = 0 then (1 : Int32) else 0) = 0 from by simp [own_form, hc72, hc79, hc86, hc93]]
              refine own_istore 114 rfl #[.val (.int p1), .val (.int p2), .val (.int p3), .val (.int p4), .val (.ref b1), .val (.int (1 : Int32)), .val (.int (3 : Int32)), .val (.int (0 : Int32)), .val (.int (0 : Int32))] at_112 rfl ?_
              refine own_iload 116 rfl at_114 rfl ?_
              refine own_iload 118 rfl at_116 rfl ?_
              refine own_icmpNo 121 rfl at_118 (teq (rfl : (0 : Int32) = (0 : Int32))).2 ?_
              refine own_iconst 122 rfl (1 : Int32) at_121 rfl ?_
              refine own_goto 126 at_122 (by decide) (by decide) ?_
              refine own_retN rfl (by simp) at_126 (by decide) (by decide) ?_
              exact ⟨_, rfl, rfl⟩
            · have ihc93 : ¬ r4.toInt = (64 : Int) := own_neq hc93
              refine own_icmpNo 96 rfl at_93 (feq hc93).1 ?_
              refine own_iconst 97 rfl (1 : Int32) at_96 rfl ?_
              refine own_goto 101 at_97 (by decide) (by decide) ?_
              refine own_istore 103 rfl #[.val (.int p1), .val (.int p2), .val (.int p3), .val (.int p4), .val (.ref b1), .val (.int (1 : Int32)), .val (.int (3 : Int32)), .val (.int (1 : Int32)), .val (.int r4)] at_101 rfl ?_
              refine own_aload 105 rfl at_103 rfl rfl ?_
              refine own_iload 107 rfl at_105 rfl ?_
              refine own_iload 109 rfl at_107 rfl ?_
              obtain ⟨cz, Az, qz, Sz, Nz, Hz, Gz⟩ := id V7
              refine own_callS 112 rfl 1 3 0 [(.ref b1), (.int (1 : Int32)), (.int (3 : Int32))] [] (y := (⟨"com/example/termledger/termledger/Ids", "isPrintableId", "([BII)Z"⟩ : MethodName)) (hw _ (List.mem_of_getElem? (i := 10) rfl)) (hw _ (List.mem_of_getElem? (i := 11) rfl)) (hw _ (List.mem_of_getElem? (i := 12) rfl)) (hw _ (List.mem_of_getElem? (i := 13) rfl)) (by decide) (rm3n l Z a0 hw [] b1 (1 : Int32) (3 : Int32) cz r4 w_STARTS_FORMULA c_w_STARTS_FORMULA h7 I (by decide) Az (inb_of Sz ⟨by decide, by decide⟩) (Has.at Hz (inb_of Sz ⟨by decide, by decide⟩) rfl) rb4 rc4) at_109 rfl (lenOf own_pd2 rfl) rfl rfl rfl (by decide) (by decide) rfl rfl (by decide) (by decide) (own_kv fun v46 h46 q46 => ?_)
              obtain ⟨rfl, e46⟩ := q46
              rw [e46]
              rw [show (if own_form r4 = 0 then (1 : Int32) else 0) = 1 from by simp [own_form, hc72, hc79, hc86, hc93]]
              refine own_istore 114 rfl #[.val (.int p1), .val (.int p2), .val (.int p3), .val (.int p4), .val (.ref b1), .val (.int (1 : Int32)), .val (.int (3 : Int32)), .val (.int (1 : Int32)), .val (.int (1 : Int32))] at_112 rfl ?_
              refine own_iload 116 rfl at_114 rfl ?_
              refine own_iload 118 rfl at_116 rfl ?_
              refine own_icmpNo 121 rfl at_118 (teq (rfl : (1 : Int32) = (1 : Int32))).2 ?_
              refine own_iconst 122 rfl (1 : Int32) at_121 rfl ?_
              refine own_goto 126 at_122 (by decide) (by decide) ?_
              refine own_retN rfl (by simp) at_126 (by decide) (by decide) ?_
              exact ⟨_, rfl, rfl⟩
    · have hin_dd := (rfl : (3 : Int) = 3)
      refine own_iadd 43 rfl at_42 ?_
      rw [show ((1 : Int32) + (3 : Int32)) = (4 : Int32) from by decide]
      refine own_callS 46 rfl 1 3 0 [(.int (3 : Int32)), (.int (4 : Int32))] [] (y := (⟨"java/lang/Math", "min", "(II)I"⟩ : MethodName)) (hw _ (List.mem_of_getElem? (i := 6) rfl)) (hw _ (List.mem_of_getElem? (i := 7) rfl)) (hw _ (List.mem_of_getElem? (i := 8) rfl)) (hw _ (List.mem_of_getElem? (i := 9) rfl)) (by decide) (rm2 l Z a0 hw [] (3 : Int32) (4 : Int32)  h7 ) at_43 rfl (lenOf own_pd1 rfl) rfl rfl rfl (by decide) (by decide) rfl rfl (by decide) (by decide) (own_kv fun v47 h47 q47 => ?_)
      obtain ⟨rfl, e47⟩ := q47
      rw [e47]
      rw [show (if (4 : Int32) < (3 : Int32) then (4 : Int32) else (3 : Int32)) = (3 : Int32) from by decide]
      refine own_istore 48 rfl #[.val (.int p1), .val (.int p2), .val (.int p3), .val (.int p4), .val (.ref b1), .val (.int (1 : Int32)), .val (.int (3 : Int32)), .unset, .unset] at_46 rfl ?_
      refine own_iload 50 rfl at_48 rfl ?_
      refine own_iload 52 rfl at_50 rfl ?_
      refine own_icmpYes 61 at_52 (feq (by decide : ¬ ((1 : Int32) = (3 : Int32)))).2 (by decide) (by decide) ?_
      refine own_aload 63 rfl at_61 rfl rfl ?_
      refine own_iload 65 rfl at_63 rfl ?_
      obtain ⟨c48, A48, q48, S48, N48, H48, G48⟩ := id V7
      refine own_baload 66 rfl A48 (inb_of S48 ⟨by decide, by decide⟩) (Has.at H48 (inb_of S48 ⟨by decide, by decide⟩) rfl) at_65 ?_
      refine own_istore 68 rfl #[.val (.int p1), .val (.int p2), .val (.int p3), .val (.int p4), .val (.ref b1), .val (.int (1 : Int32)), .val (.int (3 : Int32)), .unset, .val (.int r4)] at_66 rfl ?_
      refine own_iload 70 rfl at_68 rfl ?_
      refine own_bipush 72 rfl (61 : Int32) at_70 rfl ?_
      by_cases hc72 : r4 = (61 : Int32)
      · have ihc72 : r4.toInt = (61 : Int) := own_eq hc72
        refine own_icmpYes 100 at_72 (teq hc72).1 (by decide) (by decide) ?_
        refine own_iconst 101 rfl (0 : Int32) at_100 rfl ?_
        refine own_istore 103 rfl #[.val (.int p1), .val (.int p2), .val (.int p3), .val (.int p4), .val (.ref b1), .val (.int (1 : Int32)), .val (.int (3 : Int32)), .val (.int (0 : Int32)), .val (.int r4)] at_101 rfl ?_
        refine own_aload 105 rfl at_103 rfl rfl ?_
        refine own_iload 107 rfl at_105 rfl ?_
        refine own_iload 109 rfl at_107 rfl ?_
        obtain ⟨cz, Az, qz, Sz, Nz, Hz, Gz⟩ := id V7
        refine own_callS 112 rfl 1 3 0 [(.ref b1), (.int (1 : Int32)), (.int (3 : Int32))] [] (y := (⟨"com/example/termledger/termledger/Ids", "isPrintableId", "([BII)Z"⟩ : MethodName)) (hw _ (List.mem_of_getElem? (i := 10) rfl)) (hw _ (List.mem_of_getElem? (i := 11) rfl)) (hw _ (List.mem_of_getElem? (i := 12) rfl)) (hw _ (List.mem_of_getElem? (i := 13) rfl)) (by decide) (rm3n l Z a0 hw [] b1 (1 : Int32) (3 : Int32) cz r4 w_STARTS_FORMULA c_w_STARTS_FORMULA h7 I (by decide) Az (inb_of Sz ⟨by decide, by decide⟩) (Has.at Hz (inb_of Sz ⟨by decide, by decide⟩) rfl) rb4 rc4) at_109 rfl (lenOf own_pd2 rfl) rfl rfl rfl (by decide) (by decide) rfl rfl (by decide) (by decide) (own_kv fun v49 h49 q49 => ?_)
        obtain ⟨rfl, e49⟩ := q49
        rw [e49]
        rw [show (if own_form r4 = 0 then (1 : Int32) else 0) = 0 from by simp [own_form, hc72]]
        refine own_istore 114 rfl #[.val (.int p1), .val (.int p2), .val (.int p3), .val (.int p4), .val (.ref b1), .val (.int (1 : Int32)), .val (.int (3 : Int32)), .val (.int (0 : Int32)), .val (.int (0 : Int32))] at_112 rfl ?_
        refine own_iload 116 rfl at_114 rfl ?_
        refine own_iload 118 rfl at_116 rfl ?_
        refine own_icmpNo 121 rfl at_118 (teq (rfl : (0 : Int32) = (0 : Int32))).2 ?_
        refine own_iconst 122 rfl (1 : Int32) at_121 rfl ?_
        refine own_goto 126 at_122 (by decide) (by decide) ?_
        refine own_retN rfl (by simp) at_126 (by decide) (by decide) ?_
        exact ⟨_, rfl, rfl⟩
      · have ihc72 : ¬ r4.toInt = (61 : Int) := own_neq hc72
        refine own_icmpNo 75 rfl at_72 (feq hc72).1 ?_
        refine own_iload 77 rfl at_75 rfl ?_
        refine own_bipush 79 rfl (43 : Int32) at_77 rfl ?_
        by_cases hc79 : r4 = (43 : Int32)
        · have ihc79 : r4.toInt = (43 : Int) := own_eq hc79
          refine own_icmpYes 100 at_79 (teq hc79).1 (by decide) (by decide) ?_
          refine own_iconst 101 rfl (0 : Int32) at_100 rfl ?_
          refine own_istore 103 rfl #[.val (.int p1), .val (.int p2), .val (.int p3), .val (.int p4), .val (.ref b1), .val (.int (1 : Int32)), .val (.int (3 : Int32)), .val (.int (0 : Int32)), .val (.int r4)] at_101 rfl ?_
          refine own_aload 105 rfl at_103 rfl rfl ?_
          refine own_iload 107 rfl at_105 rfl ?_
          refine own_iload 109 rfl at_107 rfl ?_
          obtain ⟨cz, Az, qz, Sz, Nz, Hz, Gz⟩ := id V7
          refine own_callS 112 rfl 1 3 0 [(.ref b1), (.int (1 : Int32)), (.int (3 : Int32))] [] (y := (⟨"com/example/termledger/termledger/Ids", "isPrintableId", "([BII)Z"⟩ : MethodName)) (hw _ (List.mem_of_getElem? (i := 10) rfl)) (hw _ (List.mem_of_getElem? (i := 11) rfl)) (hw _ (List.mem_of_getElem? (i := 12) rfl)) (hw _ (List.mem_of_getElem? (i := 13) rfl)) (by decide) (rm3n l Z a0 hw [] b1 (1 : Int32) (3 : Int32) cz r4 w_STARTS_FORMULA c_w_STARTS_FORMULA h7 I (by decide) Az (inb_of Sz ⟨by decide, by decide⟩) (Has.at Hz (inb_of Sz ⟨by decide, by decide⟩) rfl) rb4 rc4) at_109 rfl (lenOf own_pd2 rfl) rfl rfl rfl (by decide) (by decide) rfl rfl (by decide) (by decide) (own_kv fun v50 h50 q50 => ?_)
          obtain ⟨rfl, e50⟩ := q50
          rw [e50]
          rw [show (if own_form r4 = 0 then (1 : Int32) else 0) = 0 from by simp [own_form, hc72, hc79]]
          refine own_istore 114 rfl #[.val (.int p1), .val (.int p2), .val (.int p3), .val (.int p4), .val (.ref b1), .val (.int (1 : Int32)), .val (.int (3 : Int32)), .val (.int (0 : Int32)), .val (.int (0 : Int32))] at_112 rfl ?_
          refine own_iload 116 rfl at_114 rfl ?_
          refine own_iload 118 rfl at_116 rfl ?_
          refine own_icmpNo 121 rfl at_118 (teq (rfl : (0 : Int32) = (0 : Int32))).2 ?_
          refine own_iconst 122 rfl (1 : Int32) at_121 rfl ?_
          refine own_goto 126 at_122 (by decide) (by decide) ?_
          refine own_retN rfl (by simp) at_126 (by decide) (by decide) ?_
          exact ⟨_, rfl, rfl⟩
        · have ihc79 : ¬ r4.toInt = (43 : Int) := own_neq hc79
          refine own_icmpNo 82 rfl at_79 (feq hc79).1 ?_
          refine own_iload 84 rfl at_82 rfl ?_
          refine own_bipush 86 rfl (45 : Int32) at_84 rfl ?_
          by_cases hc86 : r4 = (45 : Int32)
          · have ihc86 : r4.toInt = (45 : Int) := own_eq hc86
            refine own_icmpYes 100 at_86 (teq hc86).1 (by decide) (by decide) ?_
            refine own_iconst 101 rfl (0 : Int32) at_100 rfl ?_
            refine own_istore 103 rfl #[.val (.int p1), .val (.int p2), .val (.int p3), .val (.int p4), .val (.ref b1), .val (.int (1 : Int32)), .val (.int (3 : Int32)), .val (.int (0 : Int32)), .val (.int r4)] at_101 rfl ?_
            refine own_aload 105 rfl at_103 rfl rfl ?_
            refine own_iload 107 rfl at_105 rfl ?_
            refine own_iload 109 rfl at_107 rfl ?_
            obtain ⟨cz, Az, qz, Sz, Nz, Hz, Gz⟩ := id V7
            refine own_callS 112 rfl 1 3 0 [(.ref b1), (.int (1 : Int32)), (.int (3 : Int32))] [] (y := (⟨"com/example/termledger/termledger/Ids", "isPrintableId", "([BII)Z"⟩ : MethodName)) (hw _ (List.mem_of_getElem? (i := 10) rfl)) (hw _ (List.mem_of_getElem? (i := 11) rfl)) (hw _ (List.mem_of_getElem? (i := 12) rfl)) (hw _ (List.mem_of_getElem? (i := 13) rfl)) (by decide) (rm3n l Z a0 hw [] b1 (1 : Int32) (3 : Int32) cz r4 w_STARTS_FORMULA c_w_STARTS_FORMULA h7 I (by decide) Az (inb_of Sz ⟨by decide, by decide⟩) (Has.at Hz (inb_of Sz ⟨by decide, by decide⟩) rfl) rb4 rc4) at_109 rfl (lenOf own_pd2 rfl) rfl rfl rfl (by decide) (by decide) rfl rfl (by decide) (by decide) (own_kv fun v51 h51 q51 => ?_)
            obtain ⟨rfl, e51⟩ := q51
            rw [e51]
            rw [show (if own_form r4 = 0 then (1 : Int32) else 0) = 0 from by simp [own_form, hc72, hc79, hc86]]
            refine own_istore 114 rfl #[.val (.int p1), .val (.int p2), .val (.int p3), .val (.int p4), .val (.ref b1), .val (.int (1 : Int32)), .val (.int (3 : Int32)), .val (.int (0 : Int32)), .val (.int (0 : Int32))] at_112 rfl ?_
            refine own_iload 116 rfl at_114 rfl ?_
            refine own_iload 118 rfl at_116 rfl ?_
            refine own_icmpNo 121 rfl at_118 (teq (rfl : (0 : Int32) = (0 : Int32))).2 ?_
            refine own_iconst 122 rfl (1 : Int32) at_121 rfl ?_
            refine own_goto 126 at_122 (by decide) (by decide) ?_
            refine own_retN rfl (by simp) at_126 (by decide) (by decide) ?_
            exact ⟨_, rfl, rfl⟩
          · have ihc86 : ¬ r4.toInt = (45 : Int) := own_neq hc86
            refine own_icmpNo 89 rfl at_86 (feq hc86).1 ?_
            refine own_iload 91 rfl at_89 rfl ?_
            refine own_bipush 93 rfl (64 : Int32) at_91 rfl ?_
            by_cases hc93 : r4 = (64 : Int32)
            · have ihc93 : r4.toInt = (64 : Int) := own_eq hc93
              refine own_icmpYes 100 at_93 (teq hc93).1 (by decide) (by decide) ?_
              refine own_iconst 101 rfl (0 : Int32) at_100 rfl ?_
              refine own_istore 103 rfl #[.val (.int p1), .val (.int p2), .val (.int p3), .val (.int p4), .val (.ref b1), .val (.int (1 : Int32)), .val (.int (3 : Int32)), .val (.int (0 : Int32)), .val (.int r4)] at_101 rfl ?_
              refine own_aload 105 rfl at_103 rfl rfl ?_
              refine own_iload 107 rfl at_105 rfl ?_
              refine own_iload 109 rfl at_107 rfl ?_
              obtain ⟨cz, Az, qz, Sz, Nz, Hz, Gz⟩ := id V7
              refine own_callS 112 rfl 1 3 0 [(.ref b1), (.int (1 : Int32)), (.int (3 : Int32))] [] (y := (⟨"com/example/termledger/termledger/Ids", "isPrintableId", "([BII)Z"⟩ : MethodName)) (hw _ (List.mem_of_getElem? (i := 10) rfl)) (hw _ (List.mem_of_getElem? (i := 11) rfl)) (hw _ (List.mem_of_getElem? (i := 12) rfl)) (hw _ (List.mem_of_getElem? (i := 13) rfl)) (by decide) (rm3n l Z a0 hw [] b1 (1 : Int32) (3 : Int32) cz r4 w_STARTS_FORMULA c_w_STARTS_FORMULA h7 I (by decide) Az (inb_of Sz ⟨by decide, by decide⟩) (Has.at Hz (inb_of Sz ⟨by decide, by decide⟩) rfl) rb4 rc4) at_109 rfl (lenOf own_pd2 rfl) rfl rfl rfl (by decide) (by decide) rfl rfl (by decide) (by decide) (own_kv fun v52 h52 q52 => ?_)
              obtain ⟨rfl, e52⟩ := q52
              rw [e52]
              rw [show (if own_form r4 = 0 then (1 : Int32) else 0) = 0 from by simp [own_form, hc72, hc79, hc86, hc93]]
              refine own_istore 114 rfl #[.val (.int p1), .val (.int p2), .val (.int p3), .val (.int p4), .val (.ref b1), .val (.int (1 : Int32)), .val (.int (3 : Int32)), .val (.int (0 : Int32)), .val (.int (0 : Int32))] at_112 rfl ?_
              refine own_iload 116 rfl at_114 rfl ?_
              refine own_iload 118 rfl at_116 rfl ?_
              refine own_icmpNo 121 rfl at_118 (teq (rfl : (0 : Int32) = (0 : Int32))).2 ?_
              refine own_iconst 122 rfl (1 : Int32) at_121 rfl ?_
              refine own_goto 126 at_122 (by decide) (by decide) ?_
              refine own_retN rfl (by simp) at_126 (by decide) (by decide) ?_
              exact ⟨_, rfl, rfl⟩
            · have ihc93 : ¬ r4.toInt = (64 : Int) := own_neq hc93
              refine own_icmpNo 96 rfl at_93 (feq hc93).1 ?_
              refine own_iconst 97 rfl (1 : Int32) at_96 rfl ?_
              refine own_goto 101 at_97 (by decide) (by decide) ?_
              refine own_istore 103 rfl #[.val (.int p1), .val (.int p2), .val (.int p3), .val (.int p4), .val (.ref b1), .val (.int (1 : Int32)), .val (.int (3 : Int32)), .val (.int (1 : Int32)), .val (.int r4)] at_101 rfl ?_
              refine own_aload 105 rfl at_103 rfl rfl ?_
              refine own_iload 107 rfl at_105 rfl ?_
              refine own_iload 109 rfl at_107 rfl ?_
              obtain ⟨cz, Az, qz, Sz, Nz, Hz, Gz⟩ := id V7
              refine own_callS 112 rfl 1 3 0 [(.ref b1), (.int (1 : Int32)), (.int (3 : Int32))] [] (y := (⟨"com/example/termledger/termledger/Ids", "isPrintableId", "([BII)Z"⟩ : MethodName)) (hw _ (List.mem_of_getElem? (i := 10) rfl)) (hw _ (List.mem_of_getElem? (i := 11) rfl)) (hw _ (List.mem_of_getElem? (i := 12) rfl)) (hw _ (List.mem_of_getElem? (i := 13) rfl)) (by decide) (rm3n l Z a0 hw [] b1 (1 : Int32) (3 : Int32) cz r4 w_STARTS_FORMULA c_w_STARTS_FORMULA h7 I (by decide) Az (inb_of Sz ⟨by decide, by decide⟩) (Has.at Hz (inb_of Sz ⟨by decide, by decide⟩) rfl) rb4 rc4) at_109 rfl (lenOf own_pd2 rfl) rfl rfl rfl (by decide) (by decide) rfl rfl (by decide) (by decide) (own_kv fun v53 h53 q53 => ?_)
              obtain ⟨rfl, e53⟩ := q53
              rw [e53]
              rw [show (if own_form r4 = 0 then (1 : Int32) else 0) = 1 from by simp [own_form, hc72, hc79, hc86, hc93]]
              refine own_istore 114 rfl #[.val (.int p1), .val (.int p2), .val (.int p3), .val (.int p4), .val (.ref b1), .val (.int (1 : Int32)), .val (.int (3 : Int32)), .val (.int (1 : Int32)), .val (.int (1 : Int32))] at_112 rfl ?_
              refine own_iload 116 rfl at_114 rfl ?_
              refine own_iload 118 rfl at_116 rfl ?_
              refine own_icmpNo 121 rfl at_118 (teq (rfl : (1 : Int32) = (1 : Int32))).2 ?_
              refine own_iconst 122 rfl (1 : Int32) at_121 rfl ?_
              refine own_goto 126 at_122 (by decide) (by decide) ?_
              refine own_retN rfl (by simp) at_126 (by decide) (by decide) ?_
              exact ⟨_, rfl, rfl⟩
  · have hin_f := (rfl : (2 : Int) = 2)
    have hr_dd : dd = (0 : Int32) ∨ dd = (1 : Int32) ∨ dd = (2 : Int32) ∨ dd = (3 : Int32) := by
      have hrz : dd.toInt = 0 ∨ dd.toInt = 1 ∨ dd.toInt = 2 ∨ dd.toInt = 3 := by omega
      rcases hrz with q | q | q | q
      · exact Or.inl (own_eq' q)
      · exact Or.inr (Or.inl (own_eq' q))
      · exact Or.inr (Or.inr (Or.inl (own_eq' q)))
      · exact Or.inr (Or.inr (Or.inr (own_eq' q)))
    rcases hr_dd with rfl | rfl | rfl | rfl
    · have hin_dd := (rfl : (0 : Int) = 0)
      refine own_iadd 43 rfl at_42 ?_
      rw [show ((2 : Int32) + (0 : Int32)) = (2 : Int32) from by decide]
      refine own_callS 46 rfl 1 3 0 [(.int (3 : Int32)), (.int (2 : Int32))] [] (y := (⟨"java/lang/Math", "min", "(II)I"⟩ : MethodName)) (hw _ (List.mem_of_getElem? (i := 6) rfl)) (hw _ (List.mem_of_getElem? (i := 7) rfl)) (hw _ (List.mem_of_getElem? (i := 8) rfl)) (hw _ (List.mem_of_getElem? (i := 9) rfl)) (by decide) (rm2 l Z a0 hw [] (3 : Int32) (2 : Int32)  h7 ) at_43 rfl (lenOf own_pd1 rfl) rfl rfl rfl (by decide) (by decide) rfl rfl (by decide) (by decide) (own_kv fun v54 h54 q54 => ?_)
      obtain ⟨rfl, e54⟩ := q54
      rw [e54]
      rw [show (if (2 : Int32) < (3 : Int32) then (2 : Int32) else (3 : Int32)) = (2 : Int32) from by decide]
      refine own_istore 48 rfl #[.val (.int p1), .val (.int p2), .val (.int p3), .val (.int p4), .val (.ref b1), .val (.int (2 : Int32)), .val (.int (2 : Int32)), .unset, .unset] at_46 rfl ?_
      refine own_iload 50 rfl at_48 rfl ?_
      refine own_iload 52 rfl at_50 rfl ?_
      refine own_icmpNo 55 rfl at_52 (teq (rfl : (2 : Int32) = (2 : Int32))).2 ?_
      refine own_iconst 56 rfl (1 : Int32) at_55 rfl ?_
      refine own_istore 58 rfl #[.val (.int p1), .val (.int p2), .val (.int p3), .val (.int p4), .val (.ref b1), .val (.int (2 : Int32)), .val (.int (2 : Int32)), .val (.int (1 : Int32)), .unset] at_56 rfl ?_
      refine own_goto 103 at_58 (by decide) (by decide) ?_
      refine own_aload 105 rfl at_103 rfl rfl ?_
      refine own_iload 107 rfl at_105 rfl ?_
      refine own_iload 109 rfl at_107 rfl ?_
      refine own_callS 112 rfl 1 3 0 [(.ref b1), (.int (2 : Int32)), (.int (2 : Int32))] [] (y := (⟨"com/example/termledger/termledger/Ids", "isPrintableId", "([BII)Z"⟩ : MethodName)) (hw _ (List.mem_of_getElem? (i := 10) rfl)) (hw _ (List.mem_of_getElem? (i := 11) rfl)) (hw _ (List.mem_of_getElem? (i := 12) rfl)) (hw _ (List.mem_of_getElem? (i := 13) rfl)) (by decide) (rm3e l Z a0 hw [] b1 (2 : Int32) w_STARTS_FORMULA c_w_STARTS_FORMULA h7 I) at_109 rfl (lenOf own_pd2 rfl) rfl rfl rfl (by decide) (by decide) rfl rfl (by decide) (by decide) (own_kv fun v55 h55 q55 => ?_)
      obtain ⟨rfl, e55⟩ := q55
      rw [e55]
      refine own_istore 114 rfl #[.val (.int p1), .val (.int p2), .val (.int p3), .val (.int p4), .val (.ref b1), .val (.int (2 : Int32)), .val (.int (2 : Int32)), .val (.int (1 : Int32)), .val (.int (1 : Int32))] at_112 rfl ?_
      refine own_iload 116 rfl at_114 rfl ?_
      refine own_iload 118 rfl at_116 rfl ?_
      refine own_icmpNo 121 rfl at_118 (teq (rfl : (1 : Int32) = (1 : Int32))).2 ?_
      refine own_iconst 122 rfl (1 : Int32) at_121 rfl ?_
      refine own_goto 126 at_122 (by decide) (by decide) ?_
      refine own_retN rfl (by simp) at_126 (by decide) (by decide) ?_
      exact ⟨_, rfl, rfl⟩
    · have hin_dd := (rfl : (1 : Int) = 1)
      refine own_iadd 43 rfl at_42 ?_
      rw [show ((2 : Int32) + (1 : Int32)) = (3 : Int32) from by decide]
      refine own_callS 46 rfl 1 3 0 [(.int (3 : Int32)), (.int (3 : Int32))] [] (y := (⟨"java/lang/Math", "min", "(II)I"⟩ : MethodName)) (hw _ (List.mem_of_getElem? (i := 6) rfl)) (hw _ (List.mem_of_getElem? (i := 7) rfl)) (hw _ (List.mem_of_getElem? (i := 8) rfl)) (hw _ (List.mem_of_getElem? (i := 9) rfl)) (by decide) (rm2 l Z a0 hw [] (3 : Int32) (3 : Int32)  h7 ) at_43 rfl (lenOf own_pd1 rfl) rfl rfl rfl (by decide) (by decide) rfl rfl (by decide) (by decide) (own_kv fun v56 h56 q56 => ?_)
      obtain ⟨rfl, e56⟩ := q56
      rw [e56]
      rw [show (if (3 : Int32) < (3 : Int32) then (3 : Int32) else (3 : Int32)) = (3 : Int32) from by decide]
      refine own_istore 48 rfl #[.val (.int p1), .val (.int p2), .val (.int p3), .val (.int p4), .val (.ref b1), .val (.int (2 : Int32)), .val (.int (3 : Int32)), .unset, .unset] at_46 rfl ?_
      refine own_iload 50 rfl at_48 rfl ?_
      refine own_iload 52 rfl at_50 rfl ?_
      refine own_icmpYes 61 at_52 (feq (by decide : ¬ ((2 : Int32) = (3 : Int32)))).2 (by decide) (by decide) ?_
      refine own_aload 63 rfl at_61 rfl rfl ?_
      refine own_iload 65 rfl at_63 rfl ?_
      obtain ⟨c57, A57, q57, S57, N57, H57, G57⟩ := id V7
      refine own_baload 66 rfl A57 (inb_of S57 ⟨by decide, by decide⟩) (Has.at H57 (inb_of S57 ⟨by decide, by decide⟩) rfl) at_65 ?_
      refine own_istore 68 rfl #[.val (.int p1), .val (.int p2), .val (.int p3), .val (.int p4), .val (.ref b1), .val (.int (2 : Int32)), .val (.int (3 : Int32)), .unset, .val (.int r6)] at_66 rfl ?_
      refine own_iload 70 rfl at_68 rfl ?_
      refine own_bipush 72 rfl (61 : Int32) at_70 rfl ?_
      by_cases hc72 : r6 = (61 : Int32)
      · have ihc72 : r6.toInt = (61 : Int) := own_eq hc72
        refine own_icmpYes 100 at_72 (teq hc72).1 (by decide) (by decide) ?_
        refine own_iconst 101 rfl (0 : Int32) at_100 rfl ?_
        refine own_istore 103 rfl #[.val (.int p1), .val (.int p2), .val (.int p3), .val (.int p4), .val (.ref b1), .val (.int (2 : Int32)), .val (.int (3 : Int32)), .val (.int (0 : Int32)), .val (.int r6)] at_101 rfl ?_
        refine own_aload 105 rfl at_103 rfl rfl ?_
        refine own_iload 107 rfl at_105 rfl ?_
        refine own_iload 109 rfl at_107 rfl ?_
        obtain ⟨cz, Az, qz, Sz, Nz, Hz, Gz⟩ := id V7
        refine own_callS 112 rfl 1 3 0 [(.ref b1), (.int (2 : Int32)), (.int (3 : Int32))] [] (y := (⟨"com/example/termledger/termledger/Ids", "isPrintableId", "([BII)Z"⟩ : MethodName)) (hw _ (List.mem_of_getElem? (i := 10) rfl)) (hw _ (List.mem_of_getElem? (i := 11) rfl)) (hw _ (List.mem_of_getElem? (i := 12) rfl)) (hw _ (List.mem_of_getElem? (i := 13) rfl)) (by decide) (rm3n l Z a0 hw [] b1 (2 : Int32) (3 : Int32) cz r6 w_STARTS_FORMULA c_w_STARTS_FORMULA h7 I (by decide) Az (inb_of Sz ⟨by decide, by decide⟩) (Has.at Hz (inb_of Sz ⟨by decide, by decide⟩) rfl) rb6 rc6) at_109 rfl (lenOf own_pd2 rfl) rfl rfl rfl (by decide) (by decide) rfl rfl (by decide) (by decide) (own_kv fun v58 h58 q58 => ?_)
        obtain ⟨rfl, e58⟩ := q58
        rw [e58]
        rw [show (if own_form r6 = 0 then (1 : Int32) else 0) = 0 from by simp [own_form, hc72]]
        refine own_istore 114 rfl #[.val (.int p1), .val (.int p2), .val (.int p3), .val (.int p4), .val (.ref b1), .val (.int (2 : Int32)), .val (.int (3 : Int32)), .val (.int (0 : Int32)), .val (.int (0 : Int32))] at_112 rfl ?_
        refine own_iload 116 rfl at_114 rfl ?_
        refine own_iload 118 rfl at_116 rfl ?_
        refine own_icmpNo 121 rfl at_118 (teq (rfl : (0 : Int32) = (0 : Int32))).2 ?_
        refine own_iconst 122 rfl (1 : Int32) at_121 rfl ?_
        refine own_goto 126 at_122 (by decide) (by decide) ?_
        refine own_retN rfl (by simp) at_126 (by decide) (by decide) ?_
        exact ⟨_, rfl, rfl⟩
      · have ihc72 : ¬ r6.toInt = (61 : Int) := own_neq hc72
        refine own_icmpNo 75 rfl at_72 (feq hc72).1 ?_
        refine own_iload 77 rfl at_75 rfl ?_
        refine own_bipush 79 rfl (43 : Int32) at_77 rfl ?_
        by_cases hc79 : r6 = (43 : Int32)
        · have ihc79 : r6.toInt = (43 : Int) := own_eq hc79
          refine own_icmpYes 100 at_79 (teq hc79).1 (by decide) (by decide) ?_
          refine own_iconst 101 rfl (0 : Int32) at_100 rfl ?_
          refine own_istore 103 rfl #[.val (.int p1), .val (.int p2), .val (.int p3), .val (.int p4), .val (.ref b1), .val (.int (2 : Int32)), .val (.int (3 : Int32)), .val (.int (0 : Int32)), .val (.int r6)] at_101 rfl ?_
          refine own_aload 105 rfl at_103 rfl rfl ?_
          refine own_iload 107 rfl at_105 rfl ?_
          refine own_iload 109 rfl at_107 rfl ?_
          obtain ⟨cz, Az, qz, Sz, Nz, Hz, Gz⟩ := id V7
          refine own_callS 112 rfl 1 3 0 [(.ref b1), (.int (2 : Int32)), (.int (3 : Int32))] [] (y := (⟨"com/example/termledger/termledger/Ids", "isPrintableId", "([BII)Z"⟩ : MethodName)) (hw _ (List.mem_of_getElem? (i := 10) rfl)) (hw _ (List.mem_of_getElem? (i := 11) rfl)) (hw _ (List.mem_of_getElem? (i := 12) rfl)) (hw _ (List.mem_of_getElem? (i := 13) rfl)) (by decide) (rm3n l Z a0 hw [] b1 (2 : Int32) (3 : Int32) cz r6 w_STARTS_FORMULA c_w_STARTS_FORMULA h7 I (by decide) Az (inb_of Sz ⟨by decide, by decide⟩) (Has.at Hz (inb_of Sz ⟨by decide, by decide⟩) rfl) rb6 rc6) at_109 rfl (lenOf own_pd2 rfl) rfl rfl rfl (by decide) (by decide) rfl rfl (by decide) (by decide) (own_kv fun v59 h59 q59 => ?_)
          obtain ⟨rfl, e59⟩ := q59
          rw [e59]
          rw [show (if own_form r6 = 0 then (1 : Int32) else 0) = 0 from by simp [own_form, hc72, hc79]]
          refine own_istore 114 rfl #[.val (.int p1), .val (.int p2), .val (.int p3), .val (.int p4), .val (.ref b1), .val (.int (2 : Int32)), .val (.int (3 : Int32)), .val (.int (0 : Int32)), .val (.int (0 : Int32))] at_112 rfl ?_
          refine own_iload 116 rfl at_114 rfl ?_
          refine own_iload 118 rfl at_116 rfl ?_
          refine own_icmpNo 121 rfl at_118 (teq (rfl : (0 : Int32) = (0 : Int32))).2 ?_
          refine own_iconst 122 rfl (1 : Int32) at_121 rfl ?_
          refine own_goto 126 at_122 (by decide) (by decide) ?_
          refine own_retN rfl (by simp) at_126 (by decide) (by decide) ?_
          exact ⟨_, rfl, rfl⟩
        · have ihc79 : ¬ r6.toInt = (43 : Int) := own_neq hc79
          refine own_icmpNo 82 rfl at_79 (feq hc79).1 ?_
          refine own_iload 84 rfl at_82 rfl ?_
          refine own_bipush 86 rfl (45 : Int32) at_84 rfl ?_
          by_cases hc86 : r6 = (45 : Int32)
          · have ihc86 : r6.toInt = (45 : Int) := own_eq hc86
            refine own_icmpYes 100 at_86 (teq hc86).1 (by decide) (by decide) ?_
            refine own_iconst 101 rfl (0 : Int32) at_100 rfl ?_
            refine own_istore 103 rfl #[.val (.int p1), .val (.int p2), .val (.int p3), .val (.int p4), .val (.ref b1), .val (.int (2 : Int32)), .val (.int (3 : Int32)), .val (.int (0 : Int32)), .val (.int r6)] at_101 rfl ?_
            refine own_aload 105 rfl at_103 rfl rfl ?_
            refine own_iload 107 rfl at_105 rfl ?_
            refine own_iload 109 rfl at_107 rfl ?_
            obtain ⟨cz, Az, qz, Sz, Nz, Hz, Gz⟩ := id V7
            refine own_callS 112 rfl 1 3 0 [(.ref b1), (.int (2 : Int32)), (.int (3 : Int32))] [] (y := (⟨"com/example/termledger/termledger/Ids", "isPrintableId", "([BII)Z"⟩ : MethodName)) (hw _ (List.mem_of_getElem? (i := 10) rfl)) (hw _ (List.mem_of_getElem? (i := 11) rfl)) (hw _ (List.mem_of_getElem? (i := 12) rfl)) (hw _ (List.mem_of_getElem? (i := 13) rfl)) (by decide) (rm3n l Z a0 hw [] b1 (2 : Int32) (3 : Int32) cz r6 w_STARTS_FORMULA c_w_STARTS_FORMULA h7 I (by decide) Az (inb_of Sz ⟨by decide, by decide⟩) (Has.at Hz (inb_of Sz ⟨by decide, by decide⟩) rfl) rb6 rc6) at_109 rfl (lenOf own_pd2 rfl) rfl rfl rfl (by decide) (by decide) rfl rfl (by decide) (by decide) (own_kv fun v60 h60 q60 => ?_)
            obtain ⟨rfl, e60⟩ := q60
            rw [e60]
            rw [show (if own_form r6 = 0 then (1 : Int32) else 0) = 0 from by simp [own_form, hc72, hc79, hc86]]
            refine own_istore 114 rfl #[.val (.int p1), .val (.int p2), .val (.int p3), .val (.int p4), .val (.ref b1), .val (.int (2 : Int32)), .val (.int (3 : Int32)), .val (.int (0 : Int32)), .val (.int (0 : Int32))] at_112 rfl ?_
            refine own_iload 116 rfl at_114 rfl ?_
            refine own_iload 118 rfl at_116 rfl ?_
            refine own_icmpNo 121 rfl at_118 (teq (rfl : (0 : Int32) = (0 : Int32))).2 ?_
            refine own_iconst 122 rfl (1 : Int32) at_121 rfl ?_
            refine own_goto 126 at_122 (by decide) (by decide) ?_
            refine own_retN rfl (by simp) at_126 (by decide) (by decide) ?_
            exact ⟨_, rfl, rfl⟩
          · have ihc86 : ¬ r6.toInt = (45 : Int) := own_neq hc86
            refine own_icmpNo 89 rfl at_86 (feq hc86).1 ?_
            refine own_iload 91 rfl at_89 rfl ?_
            refine own_bipush 93 rfl (64 : Int32) at_91 rfl ?_
            by_cases hc93 : r6 = (64 : Int32)
            · have ihc93 : r6.toInt = (64 : Int) := own_eq hc93
              refine own_icmpYes 100 at_93 (teq hc93).1 (by decide) (by decide) ?_
              refine own_iconst 101 rfl (0 : Int32) at_100 rfl ?_
              refine own_istore 103 rfl #[.val (.int p1), .val (.int p2), .val (.int p3), .val (.int p4), .val (.ref b1), .val (.int (2 : Int32)), .val (.int (3 : Int32)), .val (.int (0 : Int32)), .val (.int r6)] at_101 rfl ?_
              refine own_aload 105 rfl at_103 rfl rfl ?_
              refine own_iload 107 rfl at_105 rfl ?_
              refine own_iload 109 rfl at_107 rfl ?_
              obtain ⟨cz, Az, qz, Sz, Nz, Hz, Gz⟩ := id V7
              refine own_callS 112 rfl 1 3 0 [(.ref b1), (.int (2 : Int32)), (.int (3 : Int32))] [] (y := (⟨"com/example/termledger/termledger/Ids", "isPrintableId", "([BII)Z"⟩ : MethodName)) (hw _ (List.mem_of_getElem? (i := 10) rfl)) (hw _ (List.mem_of_getElem? (i := 11) rfl)) (hw _ (List.mem_of_getElem? (i := 12) rfl)) (hw _ (List.mem_of_getElem? (i := 13) rfl)) (by decide) (rm3n l Z a0 hw [] b1 (2 : Int32) (3 : Int32) cz r6 w_STARTS_FORMULA c_w_STARTS_FORMULA h7 I (by decide) Az (inb_of Sz ⟨by decide, by decide⟩) (Has.at Hz (inb_of Sz ⟨by decide, by decide⟩) rfl) rb6 rc6) at_109 rfl (lenOf own_pd2 rfl) rfl rfl rfl (by decide) (by decide) rfl rfl (by decide) (by decide) (own_kv fun v61 h61 q61 => ?_)
              obtain ⟨rfl, e61⟩ := q61
              rw [e61]
              rw [show (if own_form r6 = 0 then (1 : Int32) else 0) = 0 from by simp [own_form, hc72, hc79, hc86, hc93]]
              refine own_istore 114 rfl #[.val (.int p1), .val (.int p2), .val (.int p3), .val (.int p4), .val (.ref b1), .val (.int (2 : Int32)), .val (.int (3 : Int32)), .val (.int (0 : Int32)), .val (.int (0 : Int32))] at_112 rfl ?_
              refine own_iload 116 rfl at_114 rfl ?_
              refine own_iload 118 rfl at_116 rfl ?_
              refine own_icmpNo 121 rfl at_118 (teq (rfl : (0 : Int32) = (0 : Int32))).2 ?_
              refine own_iconst 122 rfl (1 : Int32) at_121 rfl ?_
              refine own_goto 126 at_122 (by decide) (by decide) ?_
              refine own_retN rfl (by simp) at_126 (by decide) (by decide) ?_
              exact ⟨_, rfl, rfl⟩
            · have ihc93 : ¬ r6.toInt = (64 : Int) := own_neq hc93
              refine own_icmpNo 96 rfl at_93 (feq hc93).1 ?_
              refine own_iconst 97 rfl (1 : Int32) at_96 rfl ?_
              refine own_goto 101 at_97 (by decide) (by decide) ?_
              refine own_istore 103 rfl #[.val (.int p1), .val (.int p2), .val (.int p3), .val (.int p4), .val (.ref b1), .val (.int (2 : Int32)), .val (.int (3 : Int32)), .val (.int (1 : Int32)), .val (.int r6)] at_101 rfl ?_
              refine own_aload 105 rfl at_103 rfl rfl ?_
              refine own_iload 107 rfl at_105 rfl ?_
              refine own_iload 109 rfl at_107 rfl ?_
              obtain ⟨cz, Az, qz, Sz, Nz, Hz, Gz⟩ := id V7
              refine own_callS 112 rfl 1 3 0 [(.ref b1), (.int (2 : Int32)), (.int (3 : Int32))] [] (y := (⟨"com/example/termledger/termledger/Ids", "isPrintableId", "([BII)Z"⟩ : MethodName)) (hw _ (List.mem_of_getElem? (i := 10) rfl)) (hw _ (List.mem_of_getElem? (i := 11) rfl)) (hw _ (List.mem_of_getElem? (i := 12) rfl)) (hw _ (List.mem_of_getElem? (i := 13) rfl)) (by decide) (rm3n l Z a0 hw [] b1 (2 : Int32) (3 : Int32) cz r6 w_STARTS_FORMULA c_w_STARTS_FORMULA h7 I (by decide) Az (inb_of Sz ⟨by decide, by decide⟩) (Has.at Hz (inb_of Sz ⟨by decide, by decide⟩) rfl) rb6 rc6) at_109 rfl (lenOf own_pd2 rfl) rfl rfl rfl (by decide) (by decide) rfl rfl (by decide) (by decide) (own_kv fun v62 h62 q62 => ?_)
              obtain ⟨rfl, e62⟩ := q62
              rw [e62]
              rw [show (if own_form r6 = 0 then (1 : Int32) else 0) = 1 from by simp [own_form, hc72, hc79, hc86, hc93]]
              refine own_istore 114 rfl #[.val (.int p1), .val (.int p2), .val (.int p3), .val (.int p4), .val (.ref b1), .val (.int (2 : Int32)), .val (.int (3 : Int32)), .val (.int (1 : Int32)), .val (.int (1 : Int32))] at_112 rfl ?_
              refine own_iload 116 rfl at_114 rfl ?_
              refine own_iload 118 rfl at_116 rfl ?_
              refine own_icmpNo 121 rfl at_118 (teq (rfl : (1 : Int32) = (1 : Int32))).2 ?_
              refine own_iconst 122 rfl (1 : Int32) at_121 rfl ?_
              refine own_goto 126 at_122 (by decide) (by decide) ?_
              refine own_retN rfl (by simp) at_126 (by decide) (by decide) ?_
              exact ⟨_, rfl, rfl⟩
    · have hin_dd := (rfl : (2 : Int) = 2)
      refine own_iadd 43 rfl at_42 ?_
      rw [show ((2 : Int32) + (2 : Int32)) = (4 : Int32) from by decide]
      refine own_callS 46 rfl 1 3 0 [(.int (3 : Int32)), (.int (4 : Int32))] [] (y := (⟨"java/lang/Math", "min", "(II)I"⟩ : MethodName)) (hw _ (List.mem_of_getElem? (i := 6) rfl)) (hw _ (List.mem_of_getElem? (i := 7) rfl)) (hw _ (List.mem_of_getElem? (i := 8) rfl)) (hw _ (List.mem_of_getElem? (i := 9) rfl)) (by decide) (rm2 l Z a0 hw [] (3 : Int32) (4 : Int32)  h7 ) at_43 rfl (lenOf own_pd1 rfl) rfl rfl rfl (by decide) (by decide) rfl rfl (by decide) (by decide) (own_kv fun v63 h63 q63 => ?_)
      obtain ⟨rfl, e63⟩ := q63
      rw [e63]
      rw [show (if (4 : Int32) < (3 : Int32) then (4 : Int32) else (3 : Int32)) = (3 : Int32) from by decide]
      refine own_istore 48 rfl #[.val (.int p1), .val (.int p2), .val (.int p3), .val (.int p4), .val (.ref b1), .val (.int (2 : Int32)), .val (.int (3 : Int32)), .unset, .unset] at_46 rfl ?_
      refine own_iload 50 rfl at_48 rfl ?_
      refine own_iload 52 rfl at_50 rfl ?_
      refine own_icmpYes 61 at_52 (feq (by decide : ¬ ((2 : Int32) = (3 : Int32)))).2 (by decide) (by decide) ?_
      refine own_aload 63 rfl at_61 rfl rfl ?_
      refine own_iload 65 rfl at_63 rfl ?_
      obtain ⟨c64, A64, q64, S64, N64, H64, G64⟩ := id V7
      refine own_baload 66 rfl A64 (inb_of S64 ⟨by decide, by decide⟩) (Has.at H64 (inb_of S64 ⟨by decide, by decide⟩) rfl) at_65 ?_
      refine own_istore 68 rfl #[.val (.int p1), .val (.int p2), .val (.int p3), .val (.int p4), .val (.ref b1), .val (.int (2 : Int32)), .val (.int (3 : Int32)), .unset, .val (.int r6)] at_66 rfl ?_
      refine own_iload 70 rfl at_68 rfl ?_
      refine own_bipush 72 rfl (61 : Int32) at_70 rfl ?_
      by_cases hc72 : r6 = (61 : Int32)
      · have ihc72 : r6.toInt = (61 : Int) := own_eq hc72
        refine own_icmpYes 100 at_72 (teq hc72).1 (by decide) (by decide) ?_
        refine own_iconst 101 rfl (0 : Int32) at_100 rfl ?_
        refine own_istore 103 rfl #[.val (.int p1), .val (.int p2), .val (.int p3), .val (.int p4), .val (.ref b1), .val (.int (2 : Int32)), .val (.int (3 : Int32)), .val (.int (0 : Int32)), .val (.int r6)] at_101 rfl ?_
        refine own_aload 105 rfl at_103 rfl rfl ?_
        refine own_iload 107 rfl at_105 rfl ?_
        refine own_iload 109 rfl at_107 rfl ?_
        obtain ⟨cz, Az, qz, Sz, Nz, Hz, Gz⟩ := id V7
        refine own_callS 112 rfl 1 3 0 [(.ref b1), (.int (2 : Int32)), (.int (3 : Int32))] [] (y := (⟨"com/example/termledger/termledger/Ids", "isPrintableId", "([BII)Z"⟩ : MethodName)) (hw _ (List.mem_of_getElem? (i := 10) rfl)) (hw _ (List.mem_of_getElem? (i := 11) rfl)) (hw _ (List.mem_of_getElem? (i := 12) rfl)) (hw _ (List.mem_of_getElem? (i := 13) rfl)) (by decide) (rm3n l Z a0 hw [] b1 (2 : Int32) (3 : Int32) cz r6 w_STARTS_FORMULA c_w_STARTS_FORMULA h7 I (by decide) Az (inb_of Sz ⟨by decide, by decide⟩) (Has.at Hz (inb_of Sz ⟨by decide, by decide⟩) rfl) rb6 rc6) at_109 rfl (lenOf own_pd2 rfl) rfl rfl rfl (by decide) (by decide) rfl rfl (by decide) (by decide) (own_kv fun v65 h65 q65 => ?_)
        obtain ⟨rfl, e65⟩ := q65
        rw [e65]
        rw [show (if own_form r6 = 0 then (1 : Int32) else 0) = 0 from by simp [own_form, hc72]]
        refine own_istore 114 rfl #[.val (.int p1), .val (.int p2), .val (.int p3), .val (.int p4), .val (.ref b1), .val (.int (2 : Int32)), .val (.int (3 : Int32)), .val (.int (0 : Int32)), .val (.int (0 : Int32))] at_112 rfl ?_
        refine own_iload 116 rfl at_114 rfl ?_
        refine own_iload 118 rfl at_116 rfl ?_
        refine own_icmpNo 121 rfl at_118 (teq (rfl : (0 : Int32) = (0 : Int32))).2 ?_
        refine own_iconst 122 rfl (1 : Int32) at_121 rfl ?_
        refine own_goto 126 at_122 (by decide) (by decide) ?_
        refine own_retN rfl (by simp) at_126 (by decide) (by decide) ?_
        exact ⟨_, rfl, rfl⟩
      · have ihc72 : ¬ r6.toInt = (61 : Int) := own_neq hc72
        refine own_icmpNo 75 rfl at_72 (feq hc72).1 ?_
        refine own_iload 77 rfl at_75 rfl ?_
        refine own_bipush 79 rfl (43 : Int32) at_77 rfl ?_
        by_cases hc79 : r6 = (43 : Int32)
        · have ihc79 : r6.toInt = (43 : Int) := own_eq hc79
          refine own_icmpYes 100 at_79 (teq hc79).1 (by decide) (by decide) ?_
          refine own_iconst 101 rfl (0 : Int32) at_100 rfl ?_
          refine own_istore 103 rfl #[.val (.int p1), .val (.int p2), .val (.int p3), .val (.int p4), .val (.ref b1), .val (.int (2 : Int32)), .val (.int (3 : Int32)), .val (.int (0 : Int32)), .val (.int r6)] at_101 rfl ?_
          refine own_aload 105 rfl at_103 rfl rfl ?_
          refine own_iload 107 rfl at_105 rfl ?_
          refine own_iload 109 rfl at_107 rfl ?_
          obtain ⟨cz, Az, qz, Sz, Nz, Hz, Gz⟩ := id V7
          refine own_callS 112 rfl 1 3 0 [(.ref b1), (.int (2 : Int32)), (.int (3 : Int32))] [] (y := (⟨"com/example/termledger/termledger/Ids", "isPrintableId", "([BII)Z"⟩ : MethodName)) (hw _ (List.mem_of_getElem? (i := 10) rfl)) (hw _ (List.mem_of_getElem? (i := 11) rfl)) (hw _ (List.mem_of_getElem? (i := 12) rfl)) (hw _ (List.mem_of_getElem? (i := 13) rfl)) (by decide) (rm3n l Z a0 hw [] b1 (2 : Int32) (3 : Int32) cz r6 w_STARTS_FORMULA c_w_STARTS_FORMULA h7 I (by decide) Az (inb_of Sz ⟨by decide, by decide⟩) (Has.at Hz (inb_of Sz ⟨by decide, by decide⟩) rfl) rb6 rc6) at_109 rfl (lenOf own_pd2 rfl) rfl rfl rfl (by decide) (by decide) rfl rfl (by decide) (by decide) (own_kv fun v66 h66 q66 => ?_)
          obtain ⟨rfl, e66⟩ := q66
          rw [e66]
          rw [show (if own_form r6 = 0 then (1 : Int32) else 0) = 0 from by simp [own_form, hc72, hc79]]
          refine own_istore 114 rfl #[.val (.int p1), .val (.int p2), .val (.int p3), .val (.int p4), .val (.ref b1), .val (.int (2 : Int32)), .val (.int (3 : Int32)), .val (.int (0 : Int32)), .val (.int (0 : Int32))] at_112 rfl ?_
          refine own_iload 116 rfl at_114 rfl ?_
          refine own_iload 118 rfl at_116 rfl ?_
          refine own_icmpNo 121 rfl at_118 (teq (rfl : (0 : Int32) = (0 : Int32))).2 ?_
          refine own_iconst 122 rfl (1 : Int32) at_121 rfl ?_
          refine own_goto 126 at_122 (by decide) (by decide) ?_
          refine own_retN rfl (by simp) at_126 (by decide) (by decide) ?_
          exact ⟨_, rfl, rfl⟩
        · have ihc79 : ¬ r6.toInt = (43 : Int) := own_neq hc79
          refine own_icmpNo 82 rfl at_79 (feq hc79).1 ?_
          refine own_iload 84 rfl at_82 rfl ?_
          refine own_bipush 86 rfl (45 : Int32) at_84 rfl ?_
          by_cases hc86 : r6 = (45 : Int32)
          · have ihc86 : r6.toInt = (45 : Int) := own_eq hc86
            refine own_icmpYes 100 at_86 (teq hc86).1 (by decide) (by decide) ?_
            refine own_iconst 101 rfl (0 : Int32) at_100 rfl ?_
            refine own_istore 103 rfl #[.val (.int p1), .val (.int p2), .val (.int p3), .val (.int p4), .val (.ref b1), .val (.int (2 : Int32)), .val (.int (3 : Int32)), .val (.int (0 : Int32)), .val (.int r6)] at_101 rfl ?_
            refine own_aload 105 rfl at_103 rfl rfl ?_
            refine own_iload 107 rfl at_105 rfl ?_
            refine own_iload 109 rfl at_107 rfl ?_
            obtain ⟨cz, Az, qz, Sz, Nz, Hz, Gz⟩ := id V7
            refine own_callS 112 rfl 1 3 0 [(.ref b1), (.int (2 : Int32)), (.int (3 : Int32))] [] (y := (⟨"com/example/termledger/termledger/Ids", "isPrintableId", "([BII)Z"⟩ : MethodName)) (hw _ (List.mem_of_getElem? (i := 10) rfl)) (hw _ (List.mem_of_getElem? (i := 11) rfl)) (hw _ (List.mem_of_getElem? (i := 12) rfl)) (hw _ (List.mem_of_getElem? (i := 13) rfl)) (by decide) (rm3n l Z a0 hw [] b1 (2 : Int32) (3 : Int32) cz r6 w_STARTS_FORMULA c_w_STARTS_FORMULA h7 I (by decide) Az (inb_of Sz ⟨by decide, by decide⟩) (Has.at Hz (inb_of Sz ⟨by decide, by decide⟩) rfl) rb6 rc6) at_109 rfl (lenOf own_pd2 rfl) rfl rfl rfl (by decide) (by decide) rfl rfl (by decide) (by decide) (own_kv fun v67 h67 q67 => ?_)
            obtain ⟨rfl, e67⟩ := q67
            rw [e67]
            rw [show (if own_form r6 = 0 then (1 : Int32) else 0) = 0 from by simp [own_form, hc72, hc79, hc86]]
            refine own_istore 114 rfl #[.val (.int p1), .val (.int p2), .val (.int p3), .val (.int p4), .val (.ref b1), .val (.int (2 : Int32)), .val (.int (3 : Int32)), .val (.int (0 : Int32)), .val (.int (0 : Int32))] at_112 rfl ?_
            refine own_iload 116 rfl at_114 rfl ?_
            refine own_iload 118 rfl at_116 rfl ?_
            refine own_icmpNo 121 rfl at_118 (teq (rfl : (0 : Int32) = (0 : Int32))).2 ?_
            refine own_iconst 122 rfl (1 : Int32) at_121 rfl ?_
            refine own_goto 126 at_122 (by decide) (by decide) ?_
            refine own_retN rfl (by simp) at_126 (by decide) (by decide) ?_
            exact ⟨_, rfl, rfl⟩
          · have ihc86 : ¬ r6.toInt = (45 : Int) := own_neq hc86
            refine own_icmpNo 89 rfl at_86 (feq hc86).1 ?_
            refine own_iload 91 rfl at_89 rfl ?_
            refine own_bipush 93 rfl (64 : Int32) at_91 rfl ?_
            by_cases hc93 : r6 = (64 : Int32)
            · have ihc93 : r6.toInt = (64 : Int) := own_eq hc93
              refine own_icmpYes 100 at_93 (teq hc93).1 (by decide) (by decide) ?_
              refine own_iconst 101 rfl (0 : Int32) at_100 rfl ?_
              refine own_istore 103 rfl #[.val (.int p1), .val (.int p2), .val (.int p3), .val (.int p4), .val (.ref b1), .val (.int (2 : Int32)), .val (.int (3 : Int32)), .val (.int (0 : Int32)), .val (.int r6)] at_101 rfl ?_
              refine own_aload 105 rfl at_103 rfl rfl ?_
              refine own_iload 107 rfl at_105 rfl ?_
              refine own_iload 109 rfl at_107 rfl ?_
              obtain ⟨cz, Az, qz, Sz, Nz, Hz, Gz⟩ := id V7
              refine own_callS 112 rfl 1 3 0 [(.ref b1), (.int (2 : Int32)), (.int (3 : Int32))] [] (y := (⟨"com/example/termledger/termledger/Ids", "isPrintableId", "([BII)Z"⟩ : MethodName)) (hw _ (List.mem_of_getElem? (i := 10) rfl)) (hw _ (List.mem_of_getElem? (i := 11) rfl)) (hw _ (List.mem_of_getElem? (i := 12) rfl)) (hw _ (List.mem_of_getElem? (i := 13) rfl)) (by decide) (rm3n l Z a0 hw [] b1 (2 : Int32) (3 : Int32) cz r6 w_STARTS_FORMULA c_w_STARTS_FORMULA h7 I (by decide) Az (inb_of Sz ⟨by decide, by decide⟩) (Has.at Hz (inb_of Sz ⟨by decide, by decide⟩) rfl) rb6 rc6) at_109 rfl (lenOf own_pd2 rfl) rfl rfl rfl (by decide) (by decide) rfl rfl (by decide) (by decide) (own_kv fun v68 h68 q68 => ?_)
              obtain ⟨rfl, e68⟩ := q68
              rw [e68]
              rw [show (if own_form r6 = 0 then (1 : Int32) else 0) = 0 from by simp [own_form, hc72, hc79, hc86, hc93]]
              refine own_istore 114 rfl #[.val (.int p1), .val (.int p2), .val (.int p3), .val (.int p4), .val (.ref b1), .val (.int (2 : Int32)), .val (.int (3 : Int32)), .val (.int (0 : Int32)), .val (.int (0 : Int32))] at_112 rfl ?_
              refine own_iload 116 rfl at_114 rfl ?_
              refine own_iload 118 rfl at_116 rfl ?_
              refine own_icmpNo 121 rfl at_118 (teq (rfl : (0 : Int32) = (0 : Int32))).2 ?_
              refine own_iconst 122 rfl (1 : Int32) at_121 rfl ?_
              refine own_goto 126 at_122 (by decide) (by decide) ?_
              refine own_retN rfl (by simp) at_126 (by decide) (by decide) ?_
              exact ⟨_, rfl, rfl⟩
            · have ihc93 : ¬ r6.toInt = (64 : Int) := own_neq hc93
              refine own_icmpNo 96 rfl at_93 (feq hc93).1 ?_
              refine own_iconst 97 rfl (1 : Int32) at_96 rfl ?_
              refine own_goto 101 at_97 (by decide) (by decide) ?_
              refine own_istore 103 rfl #[.val (.int p1), .val (.int p2), .val (.int p3), .val (.int p4), .val (.ref b1), .val (.int (2 : Int32)), .val (.int (3 : Int32)), .val (.int (1 : Int32)), .val (.int r6)] at_101 rfl ?_
              refine own_aload 105 rfl at_103 rfl rfl ?_
              refine own_iload 107 rfl at_105 rfl ?_
              refine own_iload 109 rfl at_107 rfl ?_
              obtain ⟨cz, Az, qz, Sz, Nz, Hz, Gz⟩ := id V7
              refine own_callS 112 rfl 1 3 0 [(.ref b1), (.int (2 : Int32)), (.int (3 : Int32))] [] (y := (⟨"com/example/termledger/termledger/Ids", "isPrintableId", "([BII)Z"⟩ : MethodName)) (hw _ (List.mem_of_getElem? (i := 10) rfl)) (hw _ (List.mem_of_getElem? (i := 11) rfl)) (hw _ (List.mem_of_getElem? (i := 12) rfl)) (hw _ (List.mem_of_getElem? (i := 13) rfl)) (by decide) (rm3n l Z a0 hw [] b1 (2 : Int32) (3 : Int32) cz r6 w_STARTS_FORMULA c_w_STARTS_FORMULA h7 I (by decide) Az (inb_of Sz ⟨by decide, by decide⟩) (Has.at Hz (inb_of Sz ⟨by decide, by decide⟩) rfl) rb6 rc6) at_109 rfl (lenOf own_pd2 rfl) rfl rfl rfl (by decide) (by decide) rfl rfl (by decide) (by decide) (own_kv fun v69 h69 q69 => ?_)
              obtain ⟨rfl, e69⟩ := q69
              rw [e69]
              rw [show (if own_form r6 = 0 then (1 : Int32) else 0) = 1 from by simp [own_form, hc72, hc79, hc86, hc93]]
              refine own_istore 114 rfl #[.val (.int p1), .val (.int p2), .val (.int p3), .val (.int p4), .val (.ref b1), .val (.int (2 : Int32)), .val (.int (3 : Int32)), .val (.int (1 : Int32)), .val (.int (1 : Int32))] at_112 rfl ?_
              refine own_iload 116 rfl at_114 rfl ?_
              refine own_iload 118 rfl at_116 rfl ?_
              refine own_icmpNo 121 rfl at_118 (teq (rfl : (1 : Int32) = (1 : Int32))).2 ?_
              refine own_iconst 122 rfl (1 : Int32) at_121 rfl ?_
              refine own_goto 126 at_122 (by decide) (by decide) ?_
              refine own_retN rfl (by simp) at_126 (by decide) (by decide) ?_
              exact ⟨_, rfl, rfl⟩
    · have hin_dd := (rfl : (3 : Int) = 3)
      refine own_iadd 43 rfl at_42 ?_
      rw [show ((2 : Int32) + (3 : Int32)) = (5 : Int32) from by decide]
      refine own_callS 46 rfl 1 3 0 [(.int (3 : Int32)), (.int (5 : Int32))] [] (y := (⟨"java/lang/Math", "min", "(II)I"⟩ : MethodName)) (hw _ (List.mem_of_getElem? (i := 6) rfl)) (hw _ (List.mem_of_getElem? (i := 7) rfl)) (hw _ (List.mem_of_getElem? (i := 8) rfl)) (hw _ (List.mem_of_getElem? (i := 9) rfl)) (by decide) (rm2 l Z a0 hw [] (3 : Int32) (5 : Int32)  h7 ) at_43 rfl (lenOf own_pd1 rfl) rfl rfl rfl (by decide) (by decide) rfl rfl (by decide) (by decide) (own_kv fun v70 h70 q70 => ?_)
      obtain ⟨rfl, e70⟩ := q70
      rw [e70]
      rw [show (if (5 : Int32) < (3 : Int32) then (5 : Int32) else (3 : Int32)) = (3 : Int32) from by decide]
      refine own_istore 48 rfl #[.val (.int p1), .val (.int p2), .val (.int p3), .val (.int p4), .val (.ref b1), .val (.int (2 : Int32)), .val (.int (3 : Int32)), .unset, .unset] at_46 rfl ?_
      refine own_iload 50 rfl at_48 rfl ?_
      refine own_iload 52 rfl at_50 rfl ?_
      refine own_icmpYes 61 at_52 (feq (by decide : ¬ ((2 : Int32) = (3 : Int32)))).2 (by decide) (by decide) ?_
      refine own_aload 63 rfl at_61 rfl rfl ?_
      refine own_iload 65 rfl at_63 rfl ?_
      obtain ⟨c71, A71, q71, S71, N71, H71, G71⟩ := id V7
      refine own_baload 66 rfl A71 (inb_of S71 ⟨by decide, by decide⟩) (Has.at H71 (inb_of S71 ⟨by decide, by decide⟩) rfl) at_65 ?_
      refine own_istore 68 rfl #[.val (.int p1), .val (.int p2), .val (.int p3), .val (.int p4), .val (.ref b1), .val (.int (2 : Int32)), .val (.int (3 : Int32)), .unset, .val (.int r6)] at_66 rfl ?_
      refine own_iload 70 rfl at_68 rfl ?_
      refine own_bipush 72 rfl (61 : Int32) at_70 rfl ?_
      by_cases hc72 : r6 = (61 : Int32)
      · have ihc72 : r6.toInt = (61 : Int) := own_eq hc72
        refine own_icmpYes 100 at_72 (teq hc72).1 (by decide) (by decide) ?_
        refine own_iconst 101 rfl (0 : Int32) at_100 rfl ?_
        refine own_istore 103 rfl #[.val (.int p1), .val (.int p2), .val (.int p3), .val (.int p4), .val (.ref b1), .val (.int (2 : Int32)), .val (.int (3 : Int32)), .val (.int (0 : Int32)), .val (.int r6)] at_101 rfl ?_
        refine own_aload 105 rfl at_103 rfl rfl ?_
        refine own_iload 107 rfl at_105 rfl ?_
        refine own_iload 109 rfl at_107 rfl ?_
        obtain ⟨cz, Az, qz, Sz, Nz, Hz, Gz⟩ := id V7
        refine own_callS 112 rfl 1 3 0 [(.ref b1), (.int (2 : Int32)), (.int (3 : Int32))] [] (y := (⟨"com/example/termledger/termledger/Ids", "isPrintableId", "([BII)Z"⟩ : MethodName)) (hw _ (List.mem_of_getElem? (i := 10) rfl)) (hw _ (List.mem_of_getElem? (i := 11) rfl)) (hw _ (List.mem_of_getElem? (i := 12) rfl)) (hw _ (List.mem_of_getElem? (i := 13) rfl)) (by decide) (rm3n l Z a0 hw [] b1 (2 : Int32) (3 : Int32) cz r6 w_STARTS_FORMULA c_w_STARTS_FORMULA h7 I (by decide) Az (inb_of Sz ⟨by decide, by decide⟩) (Has.at Hz (inb_of Sz ⟨by decide, by decide⟩) rfl) rb6 rc6) at_109 rfl (lenOf own_pd2 rfl) rfl rfl rfl (by decide) (by decide) rfl rfl (by decide) (by decide) (own_kv fun v72 h72 q72 => ?_)
        obtain ⟨rfl, e72⟩ := q72
        rw [e72]
        rw [show (if own_form r6 = 0 then (1 : Int32) else 0) = 0 from by simp [own_form, hc72]]
        refine own_istore 114 rfl #[.val (.int p1), .val (.int p2), .val (.int p3), .val (.int p4), .val (.ref b1), .val (.int (2 : Int32)), .val (.int (3 : Int32)), .val (.int (0 : Int32)), .val (.int (0 : Int32))] at_112 rfl ?_
        refine own_iload 116 rfl at_114 rfl ?_
        refine own_iload 118 rfl at_116 rfl ?_
        refine own_icmpNo 121 rfl at_118 (teq (rfl : (0 : Int32) = (0 : Int32))).2 ?_
        refine own_iconst 122 rfl (1 : Int32) at_121 rfl ?_
        refine own_goto 126 at_122 (by decide) (by decide) ?_
        refine own_retN rfl (by simp) at_126 (by decide) (by decide) ?_
        exact ⟨_, rfl, rfl⟩
      · have ihc72 : ¬ r6.toInt = (61 : Int) := own_neq hc72
        refine own_icmpNo 75 rfl at_72 (feq hc72).1 ?_
        refine own_iload 77 rfl at_75 rfl ?_
        refine own_bipush 79 rfl (43 : Int32) at_77 rfl ?_
        by_cases hc79 : r6 = (43 : Int32)
        · have ihc79 : r6.toInt = (43 : Int) := own_eq hc79
          refine own_icmpYes 100 at_79 (teq hc79).1 (by decide) (by decide) ?_
          refine own_iconst 101 rfl (0 : Int32) at_100 rfl ?_
          refine own_istore 103 rfl #[.val (.int p1), .val (.int p2), .val (.int p3), .val (.int p4), .val (.ref b1), .val (.int (2 : Int32)), .val (.int (3 : Int32)), .val (.int (0 : Int32)), .val (.int r6)] at_101 rfl ?_
          refine own_aload 105 rfl at_103 rfl rfl ?_
          refine own_iload 107 rfl at_105 rfl ?_
          refine own_iload 109 rfl at_107 rfl ?_
          obtain ⟨cz, Az, qz, Sz, Nz, Hz, Gz⟩ := id V7
          refine own_callS 112 rfl 1 3 0 [(.ref b1), (.int (2 : Int32)), (.int (3 : Int32))] [] (y := (⟨"com/example/termledger/termledger/Ids", "isPrintableId", "([BII)Z"⟩ : MethodName)) (hw _ (List.mem_of_getElem? (i := 10) rfl)) (hw _ (List.mem_of_getElem? (i := 11) rfl)) (hw _ (List.mem_of_getElem? (i := 12) rfl)) (hw _ (List.mem_of_getElem? (i := 13) rfl)) (by decide) (rm3n l Z a0 hw [] b1 (2 : Int32) (3 : Int32) cz r6 w_STARTS_FORMULA c_w_STARTS_FORMULA h7 I (by decide) Az (inb_of Sz ⟨by decide, by decide⟩) (Has.at Hz (inb_of Sz ⟨by decide, by decide⟩) rfl) rb6 rc6) at_109 rfl (lenOf own_pd2 rfl) rfl rfl rfl (by decide) (by decide) rfl rfl (by decide) (by decide) (own_kv fun v73 h73 q73 => ?_)
          obtain ⟨rfl, e73⟩ := q73
          rw [e73]
          rw [show (if own_form r6 = 0 then (1 : Int32) else 0) = 0 from by simp [own_form, hc72, hc79]]
          refine own_istore 114 rfl #[.val (.int p1), .val (.int p2), .val (.int p3), .val (.int p4), .val (.ref b1), .val (.int (2 : Int32)), .val (.int (3 : Int32)), .val (.int (0 : Int32)), .val (.int (0 : Int32))] at_112 rfl ?_
          refine own_iload 116 rfl at_114 rfl ?_
          refine own_iload 118 rfl at_116 rfl ?_
          refine own_icmpNo 121 rfl at_118 (teq (rfl : (0 : Int32) = (0 : Int32))).2 ?_
          refine own_iconst 122 rfl (1 : Int32) at_121 rfl ?_
          refine own_goto 126 at_122 (by decide) (by decide) ?_
          refine own_retN rfl (by simp) at_126 (by decide) (by decide) ?_
          exact ⟨_, rfl, rfl⟩
        · have ihc79 : ¬ r6.toInt = (43 : Int) := own_neq hc79
          refine own_icmpNo 82 rfl at_79 (feq hc79).1 ?_
          refine own_iload 84 rfl at_82 rfl ?_
          refine own_bipush 86 rfl (45 : Int32) at_84 rfl ?_
          by_cases hc86 : r6 = (45 : Int32)
          · have ihc86 : r6.toInt = (45 : Int) := own_eq hc86
            refine own_icmpYes 100 at_86 (teq hc86).1 (by decide) (by decide) ?_
            refine own_iconst 101 rfl (0 : Int32) at_100 rfl ?_
            refine own_istore 103 rfl #[.val (.int p1), .val (.int p2), .val (.int p3), .val (.int p4), .val (.ref b1), .val (.int (2 : Int32)), .val (.int (3 : Int32)), .val (.int (0 : Int32)), .val (.int r6)] at_101 rfl ?_
            refine own_aload 105 rfl at_103 rfl rfl ?_
            refine own_iload 107 rfl at_105 rfl ?_
            refine own_iload 109 rfl at_107 rfl ?_
            obtain ⟨cz, Az, qz, Sz, Nz, Hz, Gz⟩ := id V7
            refine own_callS 112 rfl 1 3 0 [(.ref b1), (.int (2 : Int32)), (.int (3 : Int32))] [] (y := (⟨"com/example/termledger/termledger/Ids", "isPrintableId", "([BII)Z"⟩ : MethodName)) (hw _ (List.mem_of_getElem? (i := 10) rfl)) (hw _ (List.mem_of_getElem? (i := 11) rfl)) (hw _ (List.mem_of_getElem? (i := 12) rfl)) (hw _ (List.mem_of_getElem? (i := 13) rfl)) (by decide) (rm3n l Z a0 hw [] b1 (2 : Int32) (3 : Int32) cz r6 w_STARTS_FORMULA c_w_STARTS_FORMULA h7 I (by decide) Az (inb_of Sz ⟨by decide, by decide⟩) (Has.at Hz (inb_of Sz ⟨by decide, by decide⟩) rfl) rb6 rc6) at_109 rfl (lenOf own_pd2 rfl) rfl rfl rfl (by decide) (by decide) rfl rfl (by decide) (by decide) (own_kv fun v74 h74 q74 => ?_)
            obtain ⟨rfl, e74⟩ := q74
            rw [e74]
            rw [show (if own_form r6 = 0 then (1 : Int32) else 0) = 0 from by simp [own_form, hc72, hc79, hc86]]
            refine own_istore 114 rfl #[.val (.int p1), .val (.int p2), .val (.int p3), .val (.int p4), .val (.ref b1), .val (.int (2 : Int32)), .val (.int (3 : Int32)), .val (.int (0 : Int32)), .val (.int (0 : Int32))] at_112 rfl ?_
            refine own_iload 116 rfl at_114 rfl ?_
            refine own_iload 118 rfl at_116 rfl ?_
            refine own_icmpNo 121 rfl at_118 (teq (rfl : (0 : Int32) = (0 : Int32))).2 ?_
            refine own_iconst 122 rfl (1 : Int32) at_121 rfl ?_
            refine own_goto 126 at_122 (by decide) (by decide) ?_
            refine own_retN rfl (by simp) at_126 (by decide) (by decide) ?_
            exact ⟨_, rfl, rfl⟩
          · have ihc86 : ¬ r6.toInt = (45 : Int) := own_neq hc86
            refine own_icmpNo 89 rfl at_86 (feq hc86).1 ?_
            refine own_iload 91 rfl at_89 rfl ?_
            refine own_bipush 93 rfl (64 : Int32) at_91 rfl ?_
            by_cases hc93 : r6 = (64 : Int32)
            · have ihc93 : r6.toInt = (64 : Int) := own_eq hc93
              refine own_icmpYes 100 at_93 (teq hc93).1 (by decide) (by decide) ?_
              refine own_iconst 101 rfl (0 : Int32) at_100 rfl ?_
              refine own_istore 103 rfl #[.val (.int p1), .val (.int p2), .val (.int p3), .val (.int p4), .val (.ref b1), .val (.int (2 : Int32)), .val (.int (3 : Int32)), .val (.int (0 : Int32)), .val (.int r6)] at_101 rfl ?_
              refine own_aload 105 rfl at_103 rfl rfl ?_
              refine own_iload 107 rfl at_105 rfl ?_
              refine own_iload 109 rfl at_107 rfl ?_
              obtain ⟨cz, Az, qz, Sz, Nz, Hz, Gz⟩ := id V7
              refine own_callS 112 rfl 1 3 0 [(.ref b1), (.int (2 : Int32)), (.int (3 : Int32))] [] (y := (⟨"com/example/termledger/termledger/Ids", "isPrintableId", "([BII)Z"⟩ : MethodName)) (hw _ (List.mem_of_getElem? (i := 10) rfl)) (hw _ (List.mem_of_getElem? (i := 11) rfl)) (hw _ (List.mem_of_getElem? (i := 12) rfl)) (hw _ (List.mem_of_getElem? (i := 13) rfl)) (by decide) (rm3n l Z a0 hw [] b1 (2 : Int32) (3 : Int32) cz r6 w_STARTS_FORMULA c_w_STARTS_FORMULA h7 I (by decide) Az (inb_of Sz ⟨by decide, by decide⟩) (Has.at Hz (inb_of Sz ⟨by decide, by decide⟩) rfl) rb6 rc6) at_109 rfl (lenOf own_pd2 rfl) rfl rfl rfl (by decide) (by decide) rfl rfl (by decide) (by decide) (own_kv fun v75 h75 q75 => ?_)
              obtain ⟨rfl, e75⟩ := q75
              rw [e75]
              rw [show (if own_form r6 = 0 then (1 : Int32) else 0) = 0 from by simp [own_form, hc72, hc79, hc86, hc93]]
              refine own_istore 114 rfl #[.val (.int p1), .val (.int p2), .val (.int p3), .val (.int p4), .val (.ref b1), .val (.int (2 : Int32)), .val (.int (3 : Int32)), .val (.int (0 : Int32)), .val (.int (0 : Int32))] at_112 rfl ?_
              refine own_iload 116 rfl at_114 rfl ?_
              refine own_iload 118 rfl at_116 rfl ?_
              refine own_icmpNo 121 rfl at_118 (teq (rfl : (0 : Int32) = (0 : Int32))).2 ?_
              refine own_iconst 122 rfl (1 : Int32) at_121 rfl ?_
              refine own_goto 126 at_122 (by decide) (by decide) ?_
              refine own_retN rfl (by simp) at_126 (by decide) (by decide) ?_
              exact ⟨_, rfl, rfl⟩
            · have ihc93 : ¬ r6.toInt = (64 : Int) := own_neq hc93
              refine own_icmpNo 96 rfl at_93 (feq hc93).1 ?_
              refine own_iconst 97 rfl (1 : Int32) at_96 rfl ?_
              refine own_goto 101 at_97 (by decide) (by decide) ?_
              refine own_istore 103 rfl #[.val (.int p1), .val (.int p2), .val (.int p3), .val (.int p4), .val (.ref b1), .val (.int (2 : Int32)), .val (.int (3 : Int32)), .val (.int (1 : Int32)), .val (.int r6)] at_101 rfl ?_
              refine own_aload 105 rfl at_103 rfl rfl ?_
              refine own_iload 107 rfl at_105 rfl ?_
              refine own_iload 109 rfl at_107 rfl ?_
              obtain ⟨cz, Az, qz, Sz, Nz, Hz, Gz⟩ := id V7
              refine own_callS 112 rfl 1 3 0 [(.ref b1), (.int (2 : Int32)), (.int (3 : Int32))] [] (y := (⟨"com/example/termledger/termledger/Ids", "isPrintableId", "([BII)Z"⟩ : MethodName)) (hw _ (List.mem_of_getElem? (i := 10) rfl)) (hw _ (List.mem_of_getElem? (i := 11) rfl)) (hw _ (List.mem_of_getElem? (i := 12) rfl)) (hw _ (List.mem_of_getElem? (i := 13) rfl)) (by decide) (rm3n l Z a0 hw [] b1 (2 : Int32) (3 : Int32) cz r6 w_STARTS_FORMULA c_w_STARTS_FORMULA h7 I (by decide) Az (inb_of Sz ⟨by decide, by decide⟩) (Has.at Hz (inb_of Sz ⟨by decide, by decide⟩) rfl) rb6 rc6) at_109 rfl (lenOf own_pd2 rfl) rfl rfl rfl (by decide) (by decide) rfl rfl (by decide) (by decide) (own_kv fun v76 h76 q76 => ?_)
              obtain ⟨rfl, e76⟩ := q76
              rw [e76]
              rw [show (if own_form r6 = 0 then (1 : Int32) else 0) = 1 from by simp [own_form, hc72, hc79, hc86, hc93]]
              refine own_istore 114 rfl #[.val (.int p1), .val (.int p2), .val (.int p3), .val (.int p4), .val (.ref b1), .val (.int (2 : Int32)), .val (.int (3 : Int32)), .val (.int (1 : Int32)), .val (.int (1 : Int32))] at_112 rfl ?_
              refine own_iload 116 rfl at_114 rfl ?_
              refine own_iload 118 rfl at_116 rfl ?_
              refine own_icmpNo 121 rfl at_118 (teq (rfl : (1 : Int32) = (1 : Int32))).2 ?_
              refine own_iconst 122 rfl (1 : Int32) at_121 rfl ?_
              refine own_goto 126 at_122 (by decide) (by decide) ?_
              refine own_retN rfl (by simp) at_126 (by decide) (by decide) ?_
              exact ⟨_, rfl, rfl⟩
  · have hin_f := (rfl : (3 : Int) = 3)
    have hr_dd : dd = (0 : Int32) ∨ dd = (1 : Int32) ∨ dd = (2 : Int32) ∨ dd = (3 : Int32) := by
      have hrz : dd.toInt = 0 ∨ dd.toInt = 1 ∨ dd.toInt = 2 ∨ dd.toInt = 3 := by omega
      rcases hrz with q | q | q | q
      · exact Or.inl (own_eq' q)
      · exact Or.inr (Or.inl (own_eq' q))
      · exact Or.inr (Or.inr (Or.inl (own_eq' q)))
      · exact Or.inr (Or.inr (Or.inr (own_eq' q)))
    rcases hr_dd with rfl | rfl | rfl | rfl
    · have hin_dd := (rfl : (0 : Int) = 0)
      refine own_iadd 43 rfl at_42 ?_
      rw [show ((3 : Int32) + (0 : Int32)) = (3 : Int32) from by decide]
      refine own_callS 46 rfl 1 3 0 [(.int (3 : Int32)), (.int (3 : Int32))] [] (y := (⟨"java/lang/Math", "min", "(II)I"⟩ : MethodName)) (hw _ (List.mem_of_getElem? (i := 6) rfl)) (hw _ (List.mem_of_getElem? (i := 7) rfl)) (hw _ (List.mem_of_getElem? (i := 8) rfl)) (hw _ (List.mem_of_getElem? (i := 9) rfl)) (by decide) (rm2 l Z a0 hw [] (3 : Int32) (3 : Int32)  h7 ) at_43 rfl (lenOf own_pd1 rfl) rfl rfl rfl (by decide) (by decide) rfl rfl (by decide) (by decide) (own_kv fun v77 h77 q77 => ?_)
      obtain ⟨rfl, e77⟩ := q77
      rw [e77]
      rw [show (if (3 : Int32) < (3 : Int32) then (3 : Int32) else (3 : Int32)) = (3 : Int32) from by decide]
      refine own_istore 48 rfl #[.val (.int p1), .val (.int p2), .val (.int p3), .val (.int p4), .val (.ref b1), .val (.int (3 : Int32)), .val (.int (3 : Int32)), .unset, .unset] at_46 rfl ?_
      refine own_iload 50 rfl at_48 rfl ?_
      refine own_iload 52 rfl at_50 rfl ?_
      refine own_icmpNo 55 rfl at_52 (teq (rfl : (3 : Int32) = (3 : Int32))).2 ?_
      refine own_iconst 56 rfl (1 : Int32) at_55 rfl ?_
      refine own_istore 58 rfl #[.val (.int p1), .val (.int p2), .val (.int p3), .val (.int p4), .val (.ref b1), .val (.int (3 : Int32)), .val (.int (3 : Int32)), .val (.int (1 : Int32)), .unset] at_56 rfl ?_
      refine own_goto 103 at_58 (by decide) (by decide) ?_
      refine own_aload 105 rfl at_103 rfl rfl ?_
      refine own_iload 107 rfl at_105 rfl ?_
      refine own_iload 109 rfl at_107 rfl ?_
      refine own_callS 112 rfl 1 3 0 [(.ref b1), (.int (3 : Int32)), (.int (3 : Int32))] [] (y := (⟨"com/example/termledger/termledger/Ids", "isPrintableId", "([BII)Z"⟩ : MethodName)) (hw _ (List.mem_of_getElem? (i := 10) rfl)) (hw _ (List.mem_of_getElem? (i := 11) rfl)) (hw _ (List.mem_of_getElem? (i := 12) rfl)) (hw _ (List.mem_of_getElem? (i := 13) rfl)) (by decide) (rm3e l Z a0 hw [] b1 (3 : Int32) w_STARTS_FORMULA c_w_STARTS_FORMULA h7 I) at_109 rfl (lenOf own_pd2 rfl) rfl rfl rfl (by decide) (by decide) rfl rfl (by decide) (by decide) (own_kv fun v78 h78 q78 => ?_)
      obtain ⟨rfl, e78⟩ := q78
      rw [e78]
      refine own_istore 114 rfl #[.val (.int p1), .val (.int p2), .val (.int p3), .val (.int p4), .val (.ref b1), .val (.int (3 : Int32)), .val (.int (3 : Int32)), .val (.int (1 : Int32)), .val (.int (1 : Int32))] at_112 rfl ?_
      refine own_iload 116 rfl at_114 rfl ?_
      refine own_iload 118 rfl at_116 rfl ?_
      refine own_icmpNo 121 rfl at_118 (teq (rfl : (1 : Int32) = (1 : Int32))).2 ?_
      refine own_iconst 122 rfl (1 : Int32) at_121 rfl ?_
      refine own_goto 126 at_122 (by decide) (by decide) ?_
      refine own_retN rfl (by simp) at_126 (by decide) (by decide) ?_
      exact ⟨_, rfl, rfl⟩
    · have hin_dd := (rfl : (1 : Int) = 1)
      refine own_iadd 43 rfl at_42 ?_
      rw [show ((3 : Int32) + (1 : Int32)) = (4 : Int32) from by decide]
      refine own_callS 46 rfl 1 3 0 [(.int (3 : Int32)), (.int (4 : Int32))] [] (y := (⟨"java/lang/Math", "min", "(II)I"⟩ : MethodName)) (hw _ (List.mem_of_getElem? (i := 6) rfl)) (hw _ (List.mem_of_getElem? (i := 7) rfl)) (hw _ (List.mem_of_getElem? (i := 8) rfl)) (hw _ (List.mem_of_getElem? (i := 9) rfl)) (by decide) (rm2 l Z a0 hw [] (3 : Int32) (4 : Int32)  h7 ) at_43 rfl (lenOf own_pd1 rfl) rfl rfl rfl (by decide) (by decide) rfl rfl (by decide) (by decide) (own_kv fun v79 h79 q79 => ?_)
      obtain ⟨rfl, e79⟩ := q79
      rw [e79]
      rw [show (if (4 : Int32) < (3 : Int32) then (4 : Int32) else (3 : Int32)) = (3 : Int32) from by decide]
      refine own_istore 48 rfl #[.val (.int p1), .val (.int p2), .val (.int p3), .val (.int p4), .val (.ref b1), .val (.int (3 : Int32)), .val (.int (3 : Int32)), .unset, .unset] at_46 rfl ?_
      refine own_iload 50 rfl at_48 rfl ?_
      refine own_iload 52 rfl at_50 rfl ?_
      refine own_icmpNo 55 rfl at_52 (teq (rfl : (3 : Int32) = (3 : Int32))).2 ?_
      refine own_iconst 56 rfl (1 : Int32) at_55 rfl ?_
      refine own_istore 58 rfl #[.val (.int p1), .val (.int p2), .val (.int p3), .val (.int p4), .val (.ref b1), .val (.int (3 : Int32)), .val (.int (3 : Int32)), .val (.int (1 : Int32)), .unset] at_56 rfl ?_
      refine own_goto 103 at_58 (by decide) (by decide) ?_
      refine own_aload 105 rfl at_103 rfl rfl ?_
      refine own_iload 107 rfl at_105 rfl ?_
      refine own_iload 109 rfl at_107 rfl ?_
      refine own_callS 112 rfl 1 3 0 [(.ref b1), (.int (3 : Int32)), (.int (3 : Int32))] [] (y := (⟨"com/example/termledger/termledger/Ids", "isPrintableId", "([BII)Z"⟩ : MethodName)) (hw _ (List.mem_of_getElem? (i := 10) rfl)) (hw _ (List.mem_of_getElem? (i := 11) rfl)) (hw _ (List.mem_of_getElem? (i := 12) rfl)) (hw _ (List.mem_of_getElem? (i := 13) rfl)) (by decide) (rm3e l Z a0 hw [] b1 (3 : Int32) w_STARTS_FORMULA c_w_STARTS_FORMULA h7 I) at_109 rfl (lenOf own_pd2 rfl) rfl rfl rfl (by decide) (by decide) rfl rfl (by decide) (by decide) (own_kv fun v80 h80 q80 => ?_)
      obtain ⟨rfl, e80⟩ := q80
      rw [e80]
      refine own_istore 114 rfl #[.val (.int p1), .val (.int p2), .val (.int p3), .val (.int p4), .val (.ref b1), .val (.int (3 : Int32)), .val (.int (3 : Int32)), .val (.int (1 : Int32)), .val (.int (1 : Int32))] at_112 rfl ?_
      refine own_iload 116 rfl at_114 rfl ?_
      refine own_iload 118 rfl at_116 rfl ?_
      refine own_icmpNo 121 rfl at_118 (teq (rfl : (1 : Int32) = (1 : Int32))).2 ?_
      refine own_iconst 122 rfl (1 : Int32) at_121 rfl ?_
      refine own_goto 126 at_122 (by decide) (by decide) ?_
      refine own_retN rfl (by simp) at_126 (by decide) (by decide) ?_
      exact ⟨_, rfl, rfl⟩
    · have hin_dd := (rfl : (2 : Int) = 2)
      refine own_iadd 43 rfl at_42 ?_
      rw [show ((3 : Int32) + (2 : Int32)) = (5 : Int32) from by decide]
      refine own_callS 46 rfl 1 3 0 [(.int (3 : Int32)), (.int (5 : Int32))] [] (y := (⟨"java/lang/Math", "min", "(II)I"⟩ : MethodName)) (hw _ (List.mem_of_getElem? (i := 6) rfl)) (hw _ (List.mem_of_getElem? (i := 7) rfl)) (hw _ (List.mem_of_getElem? (i := 8) rfl)) (hw _ (List.mem_of_getElem? (i := 9) rfl)) (by decide) (rm2 l Z a0 hw [] (3 : Int32) (5 : Int32)  h7 ) at_43 rfl (lenOf own_pd1 rfl) rfl rfl rfl (by decide) (by decide) rfl rfl (by decide) (by decide) (own_kv fun v81 h81 q81 => ?_)
      obtain ⟨rfl, e81⟩ := q81
      rw [e81]
      rw [show (if (5 : Int32) < (3 : Int32) then (5 : Int32) else (3 : Int32)) = (3 : Int32) from by decide]
      refine own_istore 48 rfl #[.val (.int p1), .val (.int p2), .val (.int p3), .val (.int p4), .val (.ref b1), .val (.int (3 : Int32)), .val (.int (3 : Int32)), .unset, .unset] at_46 rfl ?_
      refine own_iload 50 rfl at_48 rfl ?_
      refine own_iload 52 rfl at_50 rfl ?_
      refine own_icmpNo 55 rfl at_52 (teq (rfl : (3 : Int32) = (3 : Int32))).2 ?_
      refine own_iconst 56 rfl (1 : Int32) at_55 rfl ?_
      refine own_istore 58 rfl #[.val (.int p1), .val (.int p2), .val (.int p3), .val (.int p4), .val (.ref b1), .val (.int (3 : Int32)), .val (.int (3 : Int32)), .val (.int (1 : Int32)), .unset] at_56 rfl ?_
      refine own_goto 103 at_58 (by decide) (by decide) ?_
      refine own_aload 105 rfl at_103 rfl rfl ?_
      refine own_iload 107 rfl at_105 rfl ?_
      refine own_iload 109 rfl at_107 rfl ?_
      refine own_callS 112 rfl 1 3 0 [(.ref b1), (.int (3 : Int32)), (.int (3 : Int32))] [] (y := (⟨"com/example/termledger/termledger/Ids", "isPrintableId", "([BII)Z"⟩ : MethodName)) (hw _ (List.mem_of_getElem? (i := 10) rfl)) (hw _ (List.mem_of_getElem? (i := 11) rfl)) (hw _ (List.mem_of_getElem? (i := 12) rfl)) (hw _ (List.mem_of_getElem? (i := 13) rfl)) (by decide) (rm3e l Z a0 hw [] b1 (3 : Int32) w_STARTS_FORMULA c_w_STARTS_FORMULA h7 I) at_109 rfl (lenOf own_pd2 rfl) rfl rfl rfl (by decide) (by decide) rfl rfl (by decide) (by decide) (own_kv fun v82 h82 q82 => ?_)
      obtain ⟨rfl, e82⟩ := q82
      rw [e82]
      refine own_istore 114 rfl #[.val (.int p1), .val (.int p2), .val (.int p3), .val (.int p4), .val (.ref b1), .val (.int (3 : Int32)), .val (.int (3 : Int32)), .val (.int (1 : Int32)), .val (.int (1 : Int32))] at_112 rfl ?_
      refine own_iload 116 rfl at_114 rfl ?_
      refine own_iload 118 rfl at_116 rfl ?_
      refine own_icmpNo 121 rfl at_118 (teq (rfl : (1 : Int32) = (1 : Int32))).2 ?_
      refine own_iconst 122 rfl (1 : Int32) at_121 rfl ?_
      refine own_goto 126 at_122 (by decide) (by decide) ?_
      refine own_retN rfl (by simp) at_126 (by decide) (by decide) ?_
      exact ⟨_, rfl, rfl⟩
    · have hin_dd := (rfl : (3 : Int) = 3)
      refine own_iadd 43 rfl at_42 ?_
      rw [show ((3 : Int32) + (3 : Int32)) = (6 : Int32) from by decide]
      refine own_callS 46 rfl 1 3 0 [(.int (3 : Int32)), (.int (6 : Int32))] [] (y := (⟨"java/lang/Math", "min", "(II)I"⟩ : MethodName)) (hw _ (List.mem_of_getElem? (i := 6) rfl)) (hw _ (List.mem_of_getElem? (i := 7) rfl)) (hw _ (List.mem_of_getElem? (i := 8) rfl)) (hw _ (List.mem_of_getElem? (i := 9) rfl)) (by decide) (rm2 l Z a0 hw [] (3 : Int32) (6 : Int32)  h7 ) at_43 rfl (lenOf own_pd1 rfl) rfl rfl rfl (by decide) (by decide) rfl rfl (by decide) (by decide) (own_kv fun v83 h83 q83 => ?_)
      obtain ⟨rfl, e83⟩ := q83
      rw [e83]
      rw [show (if (6 : Int32) < (3 : Int32) then (6 : Int32) else (3 : Int32)) = (3 : Int32) from by decide]
      refine own_istore 48 rfl #[.val (.int p1), .val (.int p2), .val (.int p3), .val (.int p4), .val (.ref b1), .val (.int (3 : Int32)), .val (.int (3 : Int32)), .unset, .unset] at_46 rfl ?_
      refine own_iload 50 rfl at_48 rfl ?_
      refine own_iload 52 rfl at_50 rfl ?_
      refine own_icmpNo 55 rfl at_52 (teq (rfl : (3 : Int32) = (3 : Int32))).2 ?_
      refine own_iconst 56 rfl (1 : Int32) at_55 rfl ?_
      refine own_istore 58 rfl #[.val (.int p1), .val (.int p2), .val (.int p3), .val (.int p4), .val (.ref b1), .val (.int (3 : Int32)), .val (.int (3 : Int32)), .val (.int (1 : Int32)), .unset] at_56 rfl ?_
      refine own_goto 103 at_58 (by decide) (by decide) ?_
      refine own_aload 105 rfl at_103 rfl rfl ?_
      refine own_iload 107 rfl at_105 rfl ?_
      refine own_iload 109 rfl at_107 rfl ?_
      refine own_callS 112 rfl 1 3 0 [(.ref b1), (.int (3 : Int32)), (.int (3 : Int32))] [] (y := (⟨"com/example/termledger/termledger/Ids", "isPrintableId", "([BII)Z"⟩ : MethodName)) (hw _ (List.mem_of_getElem? (i := 10) rfl)) (hw _ (List.mem_of_getElem? (i := 11) rfl)) (hw _ (List.mem_of_getElem? (i := 12) rfl)) (hw _ (List.mem_of_getElem? (i := 13) rfl)) (by decide) (rm3e l Z a0 hw [] b1 (3 : Int32) w_STARTS_FORMULA c_w_STARTS_FORMULA h7 I) at_109 rfl (lenOf own_pd2 rfl) rfl rfl rfl (by decide) (by decide) rfl rfl (by decide) (by decide) (own_kv fun v84 h84 q84 => ?_)
      obtain ⟨rfl, e84⟩ := q84
      rw [e84]
      refine own_istore 114 rfl #[.val (.int p1), .val (.int p2), .val (.int p3), .val (.int p4), .val (.ref b1), .val (.int (3 : Int32)), .val (.int (3 : Int32)), .val (.int (1 : Int32)), .val (.int (1 : Int32))] at_112 rfl ?_
      refine own_iload 116 rfl at_114 rfl ?_
      refine own_iload 118 rfl at_116 rfl ?_
      refine own_icmpNo 121 rfl at_118 (teq (rfl : (1 : Int32) = (1 : Int32))).2 ?_
      refine own_iconst 122 rfl (1 : Int32) at_121 rfl ?_
      refine own_goto 126 at_122 (by decide) (by decide) ?_
      refine own_retN rfl (by simp) at_126 (by decide) (by decide) ?_
      exact ⟨_, rfl, rfl⟩
set_option maxRecDepth 65536 in
set_option maxHeartbeats 40000000 in
theorem comes_1 {Post : Tables → Env → Array Value → State → Outcome → State → Prop} (hpost : ∀ tb e args s v u, (limb_1_1.after args s (.returned v) u = true ∧ limb_1_2.after args s (.returned v) u = true ∧ True) → FrameEnd s (.returned v) u (Jvm.fieldLocs frame_1_writes args s ++ Jvm.arrayLocs frame_1_arrays args s ++ Jvm.staticLocs frame_1_statics s) 16 128 → Post tb e args s (.returned v) u) :
    ArmFor flags0 classFile x code maxLocals ret World_1 tables_1 room_1 Calls_1 rest_1 Pre_1 Post := by
  intro l hfl _ _ p e ha hc hk s m args below hf hA hF happ hP
  obtain ⟨hcalls, hrest, hpre⟩ := hP
  obtain ⟨-, -, -, hnamed, -, -, -, hat⟩ := (Spec.applies_iff hf).mp happ
  obtain ⟨hg, hn⟩ := and_e (Cond.before_iff.mp (show (Jvm.Cond.and given_1 narrow_1).before args s = true from hpre))
  obtain ⟨g0, gr0⟩ := and_e hg
  obtain ⟨g1, gr1⟩ := and_e gr0
  obtain ⟨g2, gr2⟩ := and_e gr1
  obtain ⟨g3, gr3⟩ := and_e gr2
  have g4 := gr3
  obtain ⟨w0, w1, w2, w3, rfl⟩ : ∃ w0 w1 w2 w3 : Value, args = #[w0, w1, w2, w3] := by
    have hs : args.size = 4 := by simpa [Cond.value, given_1] using g0
    obtain ⟨L⟩ := args
    match L, hs with
    | [w0, w1, w2, w3], _ => exact ⟨w0, w1, w2, w3, rfl⟩
  have hw := fun d (hd : d ∈ tables_1) => atoms_spec (ws := Jvm.Cond.code x code maxLocals ret :: tables_1) hat d (List.mem_cons_of_mem _ hd)
  have hfit : Fit s := fun {y c} hc i hi => by
    obtain ⟨ha, rfl⟩ := Array.getElem?_eq_some_iff.mp hc
    have q := List.all_eq_true.mp ((Array.all_eq_true_iff_forall_mem.mp hF) _ (Array.getElem_mem ha)) i (List.mem_range.mpr hi)
    simpa [Array.getElem?_eq_getElem hi] using q
  obtain ⟨i0, ei0⟩ := is_v g1
  obtain rfl : w0 = (.int i0) := Option.some.inj ei0
  obtain ⟨i1, ei1⟩ := is_v g2
  obtain rfl : w1 = (.int i1) := Option.some.inj ei1
  obtain ⟨i2, ei2⟩ := is_v g3
  obtain rfl : w2 = (.int i2) := Option.some.inj ei2
  obtain ⟨i3, ei3⟩ := is_v g4
  obtain rfl : w3 = (.int i3) := Option.some.inj ei3
  obtain ⟨n0, r0⟩ := and_e hn
  obtain ⟨n1, r1⟩ := and_e r0
  obtain ⟨n2, r2⟩ := and_e r1
  obtain ⟨n3, r3⟩ := and_e r2
  obtain ⟨n4, r4⟩ := and_e r3
  obtain ⟨n5, r5⟩ := and_e r4
  obtain ⟨n6, r6⟩ := and_e r5
  obtain ⟨n7, r7⟩ := and_e r6
  obtain ⟨n8, r8⟩ := and_e r7
  obtain ⟨n9, r9⟩ := and_e r8
  obtain ⟨n10, r10⟩ := and_e r9
  have n11 := r10
  obtain ⟨w_STARTS_FORMULA, ev_w_STARTS_FORMULA⟩ := arr_v n0
  obtain ⟨c_w_STARTS_FORMULA, A0_w_STARTS_FORMULA⟩ := Arr.start ev_w_STARTS_FORMULA n0
  have aa_w_STARTS_FORMULA := A0_w_STARTS_FORMULA.fin (Vm.Alike.refl _)
  have S_w_STARTS_FORMULA : Sta s s.heap "com/example/termledger/termledger/Ids" "STARTS_FORMULA" "[Z" (.ref w_STARTS_FORMULA) := Sta.start ev_w_STARTS_FORMULA (Or.inr ⟨(hw _ (List.mem_of_getElem? (i := 12) rfl)), (hw _ (List.mem_of_getElem? (i := 15) rfl))⟩)
  have A_w_STARTS_FORMULA : Arr s s.heap w_STARTS_FORMULA c_w_STARTS_FORMULA .boolean := A0_w_STARTS_FORMULA
  have len_w_STARTS_FORMULA := own_len (own_eqI n1) ev_w_STARTS_FORMULA aa_w_STARTS_FORMULA
  have al2 := own_all n2 ev_w_STARTS_FORMULA aa_w_STARTS_FORMULA
  have el_43 := own_elem (own_eqI n3) ev_w_STARTS_FORMULA A0_w_STARTS_FORMULA.1
  have el_44 := own_elem (own_eqI n4) ev_w_STARTS_FORMULA A0_w_STARTS_FORMULA.1
  have el_45 := own_elem (own_eqI n5) ev_w_STARTS_FORMULA A0_w_STARTS_FORMULA.1
  have al6 := own_all n6 ev_w_STARTS_FORMULA aa_w_STARTS_FORMULA
  have el_61 := own_elem (own_eqI n7) ev_w_STARTS_FORMULA A0_w_STARTS_FORMULA.1
  have el_62 := own_elem (own_eqI n8) ev_w_STARTS_FORMULA A0_w_STARTS_FORMULA.1
  have el_63 := own_elem (own_eqI n9) ev_w_STARTS_FORMULA A0_w_STARTS_FORMULA.1
  have el_64 := own_elem (own_eqI n10) ev_w_STARTS_FORMULA A0_w_STARTS_FORMULA.1
  have al11 := own_all n11 ev_w_STARTS_FORMULA aa_w_STARTS_FORMULA
  have SF : own_SF c_w_STARTS_FORMULA := own_sf (fun _ => ev_w_STARTS_FORMULA) A0_w_STARTS_FORMULA.1 len_w_STARTS_FORMULA al2 al6 al11 el_43 el_44 el_45 el_61 el_62 el_63 el_64
  obtain ⟨n', o, h1, h2, h3, _, L, rfl, ⟨⟨_, rfl, rfl⟩, N, -⟩, hq⟩ := rm0 l s _ hw tables_1 i0 i1 i2 i3 w_STARTS_FORMULA c_w_STARTS_FORMULA s.heap (show own_Ini s w_STARTS_FORMULA c_w_STARTS_FORMULA from ⟨S_w_STARTS_FORMULA, A_w_STARTS_FORMULA, SF⟩) (Old.start s) p e ha hc hk s m _ below hf ((Spec.applies_iff_loose hf).mp happ).1 ⟨rfl, State.Warmed39.refl s, rfl⟩ trivial
  refine ⟨n', _, h1, h2, h3, hpost _ _ _ _ _ _ ⟨Cond.after_iff.mpr rfl, Cond.after_iff.mpr (eq_i res_at (Term.int_eval (1)) rfl), trivial⟩ ⟨hq.1, hq.2.1, (hq.2.2.sift fun y hy => Or.inr (N y hy)).mono (by decide) (by decide)⟩⟩
theorem main_1_1 : Claimed_1_1 := comes_1 fun _ _ _ _ _ _ h hF => ⟨h.1, hF⟩
theorem main_1_2 : Claimed_1_2 := comes_1 fun _ _ _ _ _ _ h hF => ⟨h.2.1, hF⟩
end Jvm.Pilot.@@N@@
namespace Jvm.Pilot.@@N@@
open Jvm Jvm.ClassFile Sem Op Lib Jvm.Free Jvm.Stand Jvm.Pilot.@@N@@.Jvm.D
/-! MADE BY PROGRAM (witnessworld.py) out of the Statement's table words and the real class files: 12 classes; the members and pool entries that the words name. The judged class is class 1, her method 2. -/
namespace start1
open Jvm.ClassFile
def u (s : String) : CpInfo := .utf8 (stringToUtf16 s)
/-- a pool by its gaps: so many unusable entries, then the entry; so many at the end -/
def gap : Nat → List CpInfo → List CpInfo
  | 0, r => r
  | n + 1, r => .unusable :: gap n r
def poolList (es : List (Nat × CpInfo)) (last : Nat) : List CpInfo := es.foldr (fun e r => gap e.1 (e.2 :: r)) (gap last [])
def pool (es : List (Nat × CpInfo)) (last : Nat) : Array CpInfo := ⟨poolList es last⟩
def fileOf (pool : Array CpInfo) (this : Nat) (attrs : Array Attribute := #[]) (ms : Array MethodInfo := #[]) (fl : Nat := 33) (sup : Nat := 0) (ifs : Array Nat := #[]) (fds : Array FieldInfo := #[]) : ClassFile where
  minorVersion := 0
  majorVersion := 65
  constantPool := pool
  accessFlags := fl
  thisClass := this
  superClass := sup
  interfaces := ifs
  fields := fds
  methods := ms
  attributes := attrs
def plain (name : String) (sup : Option ClassId) : Class where
  name := name
  kind := .ordinary
  loader := none
  accessFlags := 33
  super := sup
  interfaces := #[]
  cf := none
  fields := #[]
  methods := #[]
  instanceTypes := #[]
  staticTypes := #[]
  resolved := #[]
  callSites := []
  init := .initialized
  statics := none
  mirror := none

def pool0 : Array CpInfo := pool [(5, u "<init>"), (0, u "()V"), (1, .class_ 10), (1, u "java/lang/Object")] 113

def k0m0 : Method := { name := "<init>", desc := "()V", sig := { parameters := [], returnType := none }, accessFlags := 1, code := none }
/-- java/lang/Object -/
def k0 : Class := { plain "java/lang/Object" none with
  accessFlags := 33
  interfaces := #[]
  cf := some (fileOf pool0 8 #[] #[{ accessFlags := 1, nameIndex := 5, descriptorIndex := 6, attributes := #[] }] 33 0 #[] #[])
  fields := #[]
  methods := #[k0m0]
  instanceTypes := #[]
  staticTypes := #[]
  resolved := Array.replicate 124 none
  statics := none }

def pool1 : Array CpInfo := pool [(2, .class_ 4), (1, u "java/lang/Object"), (0, u "<init>"), (0, u "()V"), (0, .integer 2147483647), (0, .methodref 9 10), (0, .class_ 11), (0, .nameAndType 12 13), (0, u "com/example/termledger/termledger/IdsIsPrintableIdPinLaw"), (0, u "printable"), (0, u "(I)B"), (0, .methodref 15 16), (0, .class_ 17), (0, .nameAndType 18 19), (0, u "java/lang/Math"), (0, u "min"), (0, u "(II)I"), (0, .methodref 21 22), (0, .class_ 23), (0, .nameAndType 24 25), (0, u "com/example/termledger/termledger/Ids"), (0, u "isPrintableId"), (0, u "([BII)Z"), (2, u "law"), (0, u "(IIII)Z")] 5

def k1m0 : Method := { name := "<init>", desc := "()V", sig := { parameters := [], returnType := none }, accessFlags := 2, code := none }
def k1c1 : Code := { maxStack := 3, maxLocals := 1, code := method_2_code, exceptionTable := #[], attributes := #[] }
def k1m1 : Method := { name := "printable", desc := "(I)B", sig := { parameters := [.int], returnType := some .byte }, accessFlags := 10, code := some k1c1 }
def k1c2 : Code := { maxStack := 4, maxLocals := 9, code := code, exceptionTable := #[], attributes := #[] }
def k1m2 : Method := { name := "law", desc := "(IIII)Z", sig := { parameters := [.int, .int, .int, .int], returnType := some .boolean }, accessFlags := 9, code := some k1c2 }
/-- com/example/termledger/termledger/IdsIsPrintableIdPinLaw -/
def k1 : Class := { plain "com/example/termledger/termledger/IdsIsPrintableIdPinLaw" (some 0) with
  accessFlags := 49
  interfaces := #[]
  cf := some (fileOf pool1 9 #[] #[{ accessFlags := 2, nameIndex := 5, descriptorIndex := 6, attributes := #[] }, { accessFlags := 10, nameIndex := 12, descriptorIndex := 13, attributes := #[] }, { accessFlags := 9, nameIndex := 28, descriptorIndex := 29, attributes := #[] }] 49 2 #[] #[])
  fields := #[]
  methods := #[k1m0, k1m1, k1m2]
  instanceTypes := #[]
  staticTypes := #[]
  resolved := Array.replicate 35 none
  statics := none }

def pool2 : Array CpInfo := pool [(1, .class_ 2), (0, u "java/lang/Math"), (1, .class_ 6), (1, u "java/lang/Object"), (0, u "<init>"), (0, u "()V"), (89, .class_ 100), (1, u "java/lang/Math$RandomNumberGeneratorHolder"), (71, u "negativeZeroFloatBits"), (0, u "J"), (2, u "negativeZeroDoubleBits"), (24, u "min"), (43, u "$assertionsDisabled"), (0, u "Z"), (88, u "(II)I"), (2, u "twoToTheDoubleScaleDown"), (0, u "D"), (4, u "twoToTheDoubleScaleUp"), (9, u "E"), (3, u "PI"), (2, u "TAU"), (2, u "DEGREES_TO_RADIANS"), (0, u "RADIANS_TO_DEGREES")] 94

def k2m0 : Method := { name := "<init>", desc := "()V", sig := { parameters := [], returnType := none }, accessFlags := 2, code := none }
def k2c1 : Code := { maxStack := 2, maxLocals := 2, code := jdk_29_method_69_code, exceptionTable := #[], attributes := #[] }
def k2m1 : Method := { name := "min", desc := "(II)I", sig := { parameters := [.int, .int], returnType := some .int }, accessFlags := 9, code := some k2c1 }
/-- java/lang/Math -/
def k2 : Class := { plain "java/lang/Math" (some 0) with
  accessFlags := 49
  interfaces := #[]
  cf := some (fileOf pool2 1 #[.nestMembers #[98]] #[{ accessFlags := 2, nameIndex := 7, descriptorIndex := 8, attributes := #[] }, { accessFlags := 9, nameIndex := 201, descriptorIndex := 335, attributes := #[] }] 49 4 #[] #[{ accessFlags := 25, nameIndex := 354, descriptorIndex := 339, attributes := #[] }, { accessFlags := 25, nameIndex := 358, descriptorIndex := 339, attributes := #[] }, { accessFlags := 25, nameIndex := 361, descriptorIndex := 339, attributes := #[] }, { accessFlags := 26, nameIndex := 364, descriptorIndex := 339, attributes := #[] }, { accessFlags := 26, nameIndex := 365, descriptorIndex := 339, attributes := #[] }, { accessFlags := 26, nameIndex := 172, descriptorIndex := 173, attributes := #[] }, { accessFlags := 26, nameIndex := 176, descriptorIndex := 173, attributes := #[] }, { accessFlags := 8, nameIndex := 344, descriptorIndex := 339, attributes := #[] }, { accessFlags := 8, nameIndex := 338, descriptorIndex := 339, attributes := #[] }, { accessFlags := 4120, nameIndex := 245, descriptorIndex := 246, attributes := #[] }])
  fields := #[{ name := "E", type := .double, accessFlags := 25, slot := 0, constantValue := 0 }, { name := "PI", type := .double, accessFlags := 25, slot := 1, constantValue := 0 }, { name := "TAU", type := .double, accessFlags := 25, slot := 2, constantValue := 0 }, { name := "DEGREES_TO_RADIANS", type := .double, accessFlags := 26, slot := 3, constantValue := 0 }, { name := "RADIANS_TO_DEGREES", type := .double, accessFlags := 26, slot := 4, constantValue := 0 }, { name := "negativeZeroFloatBits", type := .long, accessFlags := 26, slot := 5, constantValue := 0 }, { name := "negativeZeroDoubleBits", type := .long, accessFlags := 26, slot := 6, constantValue := 0 }, { name := "twoToTheDoubleScaleUp", type := .double, accessFlags := 8, slot := 7, constantValue := 0 }, { name := "twoToTheDoubleScaleDown", type := .double, accessFlags := 8, slot := 8, constantValue := 0 }, { name := "$assertionsDisabled", type := .boolean, accessFlags := 4120, slot := 9, constantValue := 0 }]
  methods := #[k2m0, k2m1]
  instanceTypes := #[]
  staticTypes := #[.double, .double, .double, .double, .double, .long, .long, .double, .double, .boolean]
  resolved := Array.replicate 460 none
  statics := none }

def pool3 : Array CpInfo := pool [(2, .class_ 4), (1, u "java/lang/Object"), (0, u "<init>"), (0, u "()V"), (6, .class_ 14), (0, u "com/example/termledger/termledger/Ids"), (35, .fieldref 13 51), (0, .nameAndType 52 53), (0, u "STARTS_FORMULA"), (0, u "[Z"), (4, u "FORMULA_STARTS"), (0, u "Ljava/lang/String;"), (5, u "isPrintableId"), (0, u "([BII)Z")] 19

def k3m0 : Method := { name := "<init>", desc := "()V", sig := { parameters := [], returnType := none }, accessFlags := 2, code := none }
def k3c1 : Code := { maxStack := 3, maxLocals := 3, code := prog_19_method_3_code, exceptionTable := #[], attributes := #[] }
def k3m1 : Method := { name := "isPrintableId", desc := "([BII)Z", sig := { parameters := [(.array .byte), .int, .int], returnType := some .boolean }, accessFlags := 8, code := some k3c1 }
/-- com/example/termledger/termledger/Ids -/
def k3 : Class := { plain "com/example/termledger/termledger/Ids" (some 0) with
  accessFlags := 48
  interfaces := #[]
  cf := some (fileOf pool3 13 #[] #[{ accessFlags := 2, nameIndex := 5, descriptorIndex := 6, attributes := #[] }, { accessFlags := 8, nameIndex := 65, descriptorIndex := 66, attributes := #[] }] 48 2 #[] #[{ accessFlags := 26, nameIndex := 58, descriptorIndex := 59, attributes := #[] }, { accessFlags := 26, nameIndex := 52, descriptorIndex := 53, attributes := #[] }])
  fields := #[{ name := "FORMULA_STARTS", type := (.object "java/lang/String"), accessFlags := 26, slot := 0, constantValue := 0 }, { name := "STARTS_FORMULA", type := (.array .boolean), accessFlags := 26, slot := 1, constantValue := 0 }]
  methods := #[k3m0, k3m1]
  instanceTypes := #[]
  staticTypes := #[(.object "java/lang/String"), (.array .boolean)]
  resolved := Array.replicate 86 none
  statics := some 0 }

def pool4 : Array CpInfo := pool [(1, u "java/lang/Cloneable"), (0, .class_ 1), (0, u "java/lang/Object"), (0, .class_ 3)] 3

/-- java/lang/Cloneable -/
def k4 : Class := { plain "java/lang/Cloneable" (some 0) with
  accessFlags := 1537
  interfaces := #[]
  cf := some (fileOf pool4 2 #[] #[] 1537 4 #[] #[])
  fields := #[]
  methods := #[]
  instanceTypes := #[]
  staticTypes := #[]
  resolved := Array.replicate 8 none
  statics := none }

def pool5 : Array CpInfo := pool [(1, u "java/io/Serializable"), (0, .class_ 1), (0, u "java/lang/Object"), (0, .class_ 3)] 3

/-- java/io/Serializable -/
def k5 : Class := { plain "java/io/Serializable" (some 0) with
  accessFlags := 1537
  interfaces := #[]
  cf := some (fileOf pool5 2 #[] #[] 1537 4 #[] #[])
  fields := #[]
  methods := #[]
  instanceTypes := #[]
  staticTypes := #[]
  resolved := Array.replicate 8 none
  statics := none }

/-- the primitive boolean -/
def k6 : Class := { plain "boolean" none with kind := .primitive 'Z', accessFlags := 0x411 }
/-- [Z -/
def k7 : Class := { plain "[Z" (some 0) with kind := .array 6 .boolean, interfaces := #[4, 5], accessFlags := 1041 }

/-- the primitive byte -/
def k8 : Class := { plain "byte" none with kind := .primitive 'B', accessFlags := 0x411 }
/-- [B -/
def k9 : Class := { plain "[B" (some 0) with kind := .array 8 .byte, interfaces := #[4, 5], accessFlags := 1041 }

/-- the primitive int -/
def k10 : Class := { plain "int" none with kind := .primitive 'I', accessFlags := 0x411 }
/-- [I -/
def k11 : Class := { plain "[I" (some 0) with kind := .array 10 .int, interfaces := #[4, 5], accessFlags := 1041 }

def heap : Heap := #[{ cls := 3, slots := #[.null, .ref 1], vm := .statics 3 },
  { cls := 7, slots := #[.int 0, .int 0, .int 0, .int 0, .int 0, .int 0, .int 0, .int 0, .int 0, .int 0, .int 0, .int 0, .int 0, .int 0, .int 0, .int 0, .int 0, .int 0, .int 0, .int 0, .int 0, .int 0, .int 0, .int 0, .int 0, .int 0, .int 0, .int 0, .int 0, .int 0, .int 0, .int 0, .int 0, .int 0, .int 0, .int 0, .int 0, .int 0, .int 0, .int 0, .int 0, .int 0, .int 0, .int 1, .int 0, .int 1, .int 0, .int 0, .int 0, .int 0, .int 0, .int 0, .int 0, .int 0, .int 0, .int 0, .int 0, .int 0, .int 0, .int 0, .int 0, .int 1, .int 0, .int 0, .int 1, .int 0, .int 0, .int 0, .int 0, .int 0, .int 0, .int 0, .int 0, .int 0, .int 0, .int 0, .int 0, .int 0, .int 0, .int 0, .int 0, .int 0, .int 0, .int 0, .int 0, .int 0, .int 0, .int 0, .int 0, .int 0, .int 0, .int 0, .int 0, .int 0, .int 0, .int 0, .int 0, .int 0, .int 0, .int 0, .int 0, .int 0, .int 0, .int 0, .int 0, .int 0, .int 0, .int 0, .int 0, .int 0, .int 0, .int 0, .int 0, .int 0, .int 0, .int 0, .int 0, .int 0, .int 0, .int 0, .int 0, .int 0, .int 0, .int 0, .int 0, .int 0, .int 0, .int 0], vm := .none }]
def classes : Array Class := #[k0, k1, k2, k3, k4, k5, k6, k7, k8, k9, k10, k11]
def interned : List (Array UInt16 × Addr) := []
def slotsUsed : Nat := 130
def theMethod : MethodId := ⟨1, 2⟩
def args0 : Array Value := #[.int 5, .int 1, .int 2, .int 5]
def aboutOver (below : List Frame) : State where
  vm := { classes := classes, interned := interned.toArray }
  heap := heap
  slotsUsed := slotsUsed
  threads := #[{ frames := .invoking theMethod args0 :: below }]
def below0 : List Frame := [.native { method := ⟨0, 0⟩, args := #[] }]
def about1 : State := aboutOver below0
def p0 : Program := .bare "" "" ""
def e0 : Env := launch0.env 0 0 0
theorem w_frames : about1.frames = Frame.invoking theMethod args0 :: below0 := rfl
set_option maxRecDepth 65536 in
theorem w_args : argsFit about1.vm theMethod args0 = true := by decide +kernel
set_option maxRecDepth 65536 in
theorem w_heap : heapFits about1 = true := by decide +kernel
set_option maxRecDepth 65536 in
theorem w_runnable : about1.curStatus? = some .runnable := by decide +kernel
set_option maxRecDepth 65536 in
theorem w_alone : about1.alone = true := by decide +kernel
set_option maxRecDepth 65536 in
theorem w_named : about1.methodNamed? x = some theMethod := by decide +kernel
set_option maxRecDepth 65536 in
theorem w_hears : about1.hears theMethod below0 = true := by decide +kernel
set_option maxRecDepth 65536 in
theorem w_ripe : about1.ripe theMethod args0 below0 = true := by decide +kernel
theorem w_running : about1.status = .running := rfl
set_option maxRecDepth 65536 in
theorem w_room : about1.hasRoom e0.platform room_1 = true :=
  launch0.hasRoom_least _ room_1 (by decide +kernel) (by decide +kernel) (by decide +kernel) (by decide +kernel) (by decide +kernel) (by decide +kernel)
theorem allAtoms_all (ts : List Jvm.Cond) (a : Array Jvm.Value) (st : Jvm.State) : (allAtoms ts).before a st = ts.all (fun c => c.before a st) := by
  induction ts with
  | nil => rfl
  | cons c t ih =>
    show (Jvm.Cond.and c (allAtoms t)).before a st = _
    rw [Jvm.Cond.before_and, ih, List.all_cons]
def words1 : List Jvm.Cond := Jvm.Cond.code x code maxLocals ret :: tables_1
/-- a 'code' word, met by the world's own term for the bytes: nothing is compared byte by byte -/
theorem code_word {y : MethodName} {bytes : ByteArray} {mx : Nat} {rt : Option FieldType} {a : Array Value} {s : State} {m : MethodId} {meth : Method} {c : Code} (h1 : s.methodNamed? y = some m) (h2 : s.vm.method? m = some meth) (h3 : meth.code = some c) (h4 : c.code = bytes)
    (h5 : (c.maxLocals == mx && c.exceptionTable.isEmpty && decide (c.maxStack ≤ mostOperands) && decide (meth.sig.returnType = rt) && !meth.locks && decide (parseMethodDescriptor y.desc = some meth.sig)) = true) : (Jvm.Cond.code y bytes mx rt).before a s = true := by
  simp only [Bool.and_eq_true, beq_iff_eq, Bool.not_eq_true', decide_eq_true_eq] at h5
  obtain ⟨⟨⟨⟨⟨g1, g2⟩, g3⟩, g4⟩, g5⟩, g6⟩ := h5
  simp [Cond.before, Cond.holds, Cond.value, h1, h2, h3, h4, g1, g2, g3, g4, g5, g6]
def isCode : Jvm.Cond → Bool
  | .code _ _ _ _ => true
  | _ => false
theorem all_split {L : List Jvm.Cond} {P : Jvm.Cond → Bool} (h1 : L.all (fun c => isCode c || P c) = true) (h2 : ∀ c ∈ L.filter isCode, P c = true) : L.all P = true := by
  refine List.all_eq_true.mpr fun c hc => ?_
  have h := List.all_eq_true.mp h1 c hc
  rcases Bool.eq_false_or_eq_true (isCode c) with hi | hi
  · exact h2 c (List.mem_filter.mpr ⟨hc, hi⟩)
  · simpa [hi] using h
set_option maxRecDepth 65536 in
theorem w_c0 : (Jvm.Cond.code x code maxLocals ret).before args0 about1 = true := code_word (m := ⟨1, 2⟩) (meth := k1m2) (c := k1c2) (by decide +kernel) rfl rfl rfl (by decide +kernel)
set_option maxRecDepth 65536 in
theorem w_c1 : (Jvm.Cond.code ({ cls := "com/example/termledger/termledger/IdsIsPrintableIdPinLaw", name := "printable", desc := "(I)B" } : Jvm.MethodName) method_2_code (1 : Nat) (Option.some Jvm.ClassFile.FieldType.byte)).before args0 about1 = true := code_word (m := ⟨1, 1⟩) (meth := k1m1) (c := k1c1) (by decide +kernel) rfl rfl rfl (by decide +kernel)
set_option maxRecDepth 65536 in
theorem w_c2 : (Jvm.Cond.code ({ cls := "java/lang/Math", name := "min", desc := "(II)I" } : Jvm.MethodName) jdk_29_method_69_code (2 : Nat) (Option.some Jvm.ClassFile.FieldType.int)).before args0 about1 = true := code_word (m := ⟨2, 1⟩) (meth := k2m1) (c := k2c1) (by decide +kernel) rfl rfl rfl (by decide +kernel)
set_option maxRecDepth 65536 in
theorem w_c3 : (Jvm.Cond.code ({ cls := "com/example/termledger/termledger/Ids", name := "isPrintableId", desc := "([BII)Z" } : Jvm.MethodName) prog_19_method_3_code (3 : Nat) (Option.some Jvm.ClassFile.FieldType.boolean)).before args0 about1 = true := code_word (m := ⟨3, 1⟩) (meth := k3m1) (c := k3c1) (by decide +kernel) rfl rfl rfl (by decide +kernel)
def codes1 : List Jvm.Cond := [Jvm.Cond.code x code maxLocals ret, Jvm.Cond.code ({ cls := "com/example/termledger/termledger/IdsIsPrintableIdPinLaw", name := "printable", desc := "(I)B" } : Jvm.MethodName) method_2_code (1 : Nat) (Option.some Jvm.ClassFile.FieldType.byte), Jvm.Cond.code ({ cls := "java/lang/Math", name := "min", desc := "(II)I" } : Jvm.MethodName) jdk_29_method_69_code (2 : Nat) (Option.some Jvm.ClassFile.FieldType.int), Jvm.Cond.code ({ cls := "com/example/termledger/termledger/Ids", name := "isPrintableId", desc := "([BII)Z" } : Jvm.MethodName) prog_19_method_3_code (3 : Nat) (Option.some Jvm.ClassFile.FieldType.boolean)]
set_option maxRecDepth 65536 in
theorem codes_eq : words1.filter isCode = codes1 := rfl
theorem w_codes : ∀ c ∈ words1.filter isCode, c.before args0 about1 = true := by
  rw [codes_eq]
  intro c hc
  simp only [codes1, List.mem_cons, List.not_mem_nil, or_false] at hc
  rcases hc with rfl | rfl | rfl | rfl
  · exact w_c0
  · exact w_c1
  · exact w_c2
  · exact w_c3
set_option maxRecDepth 65536 in
theorem w_t1 : words1.all (fun c => isCode c || c.before args0 about1) = true := by decide +kernel
theorem w_tables : (allAtoms (Jvm.Cond.code x code maxLocals ret :: tables_1)).before args0 about1 = true := by
  rw [allAtoms_all]
  show words1.all (fun c => c.before args0 about1) = true
  refine all_split ?_ w_codes
  rw [w_t1]
set_option maxRecDepth 65536 in
theorem w_case : (Jvm.Cond.and given_1 narrow_1).before args0 about1 = true := by decide +kernel
theorem w_applies : (headSpec (Jvm.Cond.code x code maxLocals ret :: tables_1) room_1).applies x e0.platform about1 = true :=
  (Spec.applies_iff w_frames).mpr ⟨w_running, w_runnable, w_alone, w_named, w_hears, w_ripe, w_room, w_tables⟩
theorem atStart : AtStart classFile x code maxLocals ret World_1 tables_1 room_1 Calls_1 rest_1 Pre_1 launch0 p0 e0 about1 theMethod args0 below0 :=
  ⟨lists_1, trivial, launch0.admits_env _ _ _, launch0.least_env, fairChoices_fair.cas, fairChoices_fair.clock, w_frames, w_args, w_heap, w_applies, trivial, trivial, w_case⟩
end start1
theorem witness_1 : WitnessClaimed_1 := ⟨start1.p0, start1.e0, start1.about1, start1.theMethod, start1.args0, start1.below0, start1.atStart⟩
end Jvm.Pilot.@@N@@
