import JvmDerived
import JvmDerived.Pilot.@@N@@Statement
import JvmDerived.Pilot.@@N@@Code
set_option linter.unusedVariables false
set_option linter.unusedSimpArgs false
namespace Jvm.Pilot.@@N@@
open Jvm Jvm.ClassFile Sem Op Lib Jvm.Free Jvm.Stand Jvm.LawKit Jvm.RoadKit Bundle Jvm.Pilot.@@N@@.Jvm.D
section OwnHead
variable {p : Program} {l : Launch} {e : Env} {R : Room} {s : State} {m : MethodId} {args : Array Value} {below : List Frame} {meth : Method} {c : Code} {T : State} {locs : List Loc} {cells slots : Nat} {Z : State} {a0 : Array Value} {h : Heap} {Q : Option Value → Heap → List Loc → Prop} {P : State → Outcome → Prop} {ce sl : Nat} {pc pc' : Nat} {Ls : Array Slot} {st : List Value}
def own_G (p : Program) (e : Env) (below : List Frame) (P : State → Outcome → Prop) (S : State) : Prop := ∃ s₂ o, Steps p.tables e below S s₂ ∧ s₂.status = .running ∧ Ended s₂ below o ∧ P s₂ o
def own_P (s : State) (Q : Option Value → Heap → List Loc → Prop) (ce sl : Nat) (s₂ : State) (o : Outcome) : Prop := ∃ v L, o = .returned v ∧ Q v s₂.heap L ∧ FrameEnd s o s₂ L ce sl
theorem own_fw {S S' : State} (h : ∀ t, Steps p.tables e below S' t → Steps p.tables e below S t) (g : own_G p e below P S') : own_G p e below P S := by
  obtain ⟨s₂, o, h1, r⟩ := g; exact ⟨s₂, o, h _ h1, r⟩
theorem own_via {S S' : State} (h : own_G p e below P S' → own_G p e below P S) (g : own_G p e below P S') : own_G p e below P S := h g
theorem own_cast {S S' : State} (h : S = S') (g : own_G p e below P S') : own_G p e below P S := h ▸ g
abbrev own_M (l : Launch) (Z : State) (y : MethodName) (bytes : ByteArray) (maxL : Nat) (ret : Option FieldType) (ws : List Jvm.Cond) (rm : Room) (as' : Array Value) (h0 : Heap) (Q : Option Value → Heap → List Loc → Prop) (ce sl : Nat) : Prop := MetFree l y (head1 (Jvm.Cond.code y bytes maxL ret :: ws) rm) (fun a U => a = as' ∧ Z.Warmed39 U.vm ∧ U.heap = h0) (fun _ _ _ _ _ => True) (fun _ U o U' => ∃ v L, o = .returned v ∧ Q v U'.heap L ∧ FrameEnd U o U' L ce sl)
theorem own_body {y : MethodName} {bytes : ByteArray} {maxL : Nat} {ret : Option FieldType} {ws : List Jvm.Cond} {rm : Room} {as' : Array Value} {h0 : Heap} (hp : plainFor y = true)
    (body : ∀ (p : Program) (e : Env) (s : State) (m : MethodId) (below : List Frame) (meth : Method) (c : Code) (s₁ : State), p.tables.exec = Jvm.exec → c.code = bytes → c.maxLocals = maxL → s.vm.findClass y.cls = some m.cls → meth.name = y.name → meth.sig.returnType = ret → meth.locks = false → Z.Warmed39 s.vm → Stand p l e rm s m as' below meth c s₁ [] 0 0 → s₁.heap = h0 → own_G p e below (own_P s Q ce sl) (s₁.setTop (entryFrame m as' maxL))) : own_M l Z y bytes maxL ret ws rm as' h0 Q ce sl := by
  refine MetFree.of_bodySF hp hisR ?_
  intro p e s m args below meth c s₁ Bd hml hP hK
  obtain ⟨rfl, hZ, hh⟩ := hP
  exact body p e s m below meth c s₁ Bd.exec Bd.bytes hml (findClass_of_methodNamed Bd.named) (name_of_methodNamed Bd.named Bd.method).1 Bd.returns Bd.notSynchronized hZ (Stand.of_body Bd) (by rw [← hh, Bd.state]; rfl)
theorem own_ret (X : Stand p l e R s m args below meth c T locs cells slots) (hx : p.tables.exec = Jvm.exec) {w : Value} {t : FieldType} {i : Instr} (hret : meth.sig.returnType = some t) (hlk : meth.locks = false) (hn : narrow t w = w)
    (hi : (i = .ireturn ∧ (t = .int ∨ t = .boolean ∨ t = .byte ∨ t = .char ∨ t = .short) ∧ ∃ z, w = .int z) ∨ (i = .lreturn ∧ t = .long ∧ ∃ z, w = .long z) ∨ (i = .dreturn ∧ t = .double ∧ ∃ z, w = .double z) ∨ (i = .freturn ∧ t = .float ∧ ∃ z, w = .float z) ∨ (i = .areturn ∧ t.isReference = true ∧ w.isRef = true))
    (hd : decode c.code pc = .ok (i, 1)) (hQ : Q (some w) T.heap locs) (hce : cells ≤ ce) (hsl : slots ≤ sl) : own_G p e below (own_P s Q ce sl) (T.setTop (mkF m pc Ls (w :: st))) := by
  obtain ⟨fs, hr, hrun, hended, hW, hsame⟩ := X.leave (v := some w) (fun h => by rw [hret] at h; cases h) hlk
  exact ⟨_, _, retOut X hx hret hn hi hd hr, hrun, hended, _, _, rfl, hQ, ⟨_, rfl⟩, hW, hsame.mono hce hsl⟩
theorem own_retI (X : Stand p l e R s m args below meth c T locs cells slots) (hx : p.tables.exec = Jvm.exec) {z : Int32} (hret : meth.sig.returnType = some .int) (hlk : meth.locks = false) (hd : decode c.code pc = .ok (.ireturn, 1)) (hQ : Q (some (.int z)) T.heap locs) (hce : cells ≤ ce) (hsl : slots ≤ sl) : own_G p e below (own_P s Q ce sl) (T.setTop (mkF m pc Ls (.int z :: st))) := own_ret X hx hret hlk rfl (Or.inl ⟨rfl, Or.inl rfl, z, rfl⟩) hd hQ hce hsl
theorem own_retZ (X : Stand p l e R s m args below meth c T locs cells slots) (hx : p.tables.exec = Jvm.exec) {z : Int32} (hret : meth.sig.returnType = some .boolean) (hlk : meth.locks = false) (hz : z = 0 ∨ z = 1) (hd : decode c.code pc = .ok (.ireturn, 1)) (hQ : Q (some (.int z)) T.heap locs) (hce : cells ≤ ce) (hsl : slots ≤ sl) : own_G p e below (own_P s Q ce sl) (T.setTop (mkF m pc Ls (.int z :: st))) := own_ret X hx hret hlk (by rcases hz with rfl | rfl <;> rfl) (Or.inl ⟨rfl, Or.inr (Or.inl rfl), z, rfl⟩) hd hQ hce hsl
theorem own_retB (X : Stand p l e R s m args below meth c T locs cells slots) (hx : p.tables.exec = Jvm.exec) {z : Int32} (hret : meth.sig.returnType = some .byte) (hlk : meth.locks = false) (hz : narrow .byte (.int z) = .int z) (hd : decode c.code pc = .ok (.ireturn, 1)) (hQ : Q (some (.int z)) T.heap locs) (hce : cells ≤ ce) (hsl : slots ≤ sl) : own_G p e below (own_P s Q ce sl) (T.setTop (mkF m pc Ls (.int z :: st))) := own_ret X hx hret hlk hz (Or.inl ⟨rfl, Or.inr (Or.inr (Or.inl rfl)), z, rfl⟩) hd hQ hce hsl
theorem own_retL (X : Stand p l e R s m args below meth c T locs cells slots) (hx : p.tables.exec = Jvm.exec) {z : Int64} (hret : meth.sig.returnType = some .long) (hlk : meth.locks = false) (hd : decode c.code pc = .ok (.lreturn, 1)) (hQ : Q (some (.long z)) T.heap locs) (hce : cells ≤ ce) (hsl : slots ≤ sl) : own_G p e below (own_P s Q ce sl) (T.setTop (mkF m pc Ls (.long z :: st))) := own_ret X hx hret hlk rfl (Or.inr (Or.inl ⟨rfl, rfl, z, rfl⟩)) hd hQ hce hsl
theorem own_retA (X : Stand p l e R s m args below meth c T locs cells slots) (hx : p.tables.exec = Jvm.exec) {v : Value} {t : FieldType} (hret : meth.sig.returnType = some t) (hlk : meth.locks = false) (ht : t.isReference = true) (hn : narrow t v = v) (hv : v.isRef = true) (hd : decode c.code pc = .ok (.areturn, 1)) (hQ : Q (some v) T.heap locs) (hce : cells ≤ ce) (hsl : slots ≤ sl) : own_G p e below (own_P s Q ce sl) (T.setTop (mkF m pc Ls (v :: st))) := own_ret X hx hret hlk hn (Or.inr (Or.inr (Or.inr (Or.inr ⟨rfl, ht, hv⟩)))) hd hQ hce hsl
theorem own_retV (X : Stand p l e R s m args below meth c T locs cells slots) (hx : p.tables.exec = Jvm.exec) (hret : meth.sig.returnType = none) (hlk : meth.locks = false) (hd : decode c.code pc = .ok (.return_, 1)) (hQ : Q none T.heap locs) (hce : cells ≤ ce) (hsl : slots ≤ sl) : own_G p e below (own_P s Q ce sl) (T.setTop (mkF m pc Ls [])) := by
  obtain ⟨fs, hr, hrun, hended, hW, hsame⟩ := X.leave (v := none) (fun _ => rfl) hlk
  exact ⟨_, _, X.returnOut hx hret hd hr, hrun, hended, _, _, rfl, hQ, ⟨_, rfl⟩, hW, hsame.mono hce hsl⟩
theorem own_iloadN {i : Fin 4} {v : Int32} (X : Stand p l e R s m args below meth c T locs cells slots) (hx : p.tables.exec = Jvm.exec) (hd : decode c.code pc = .ok (.iload_n i, 1)) (hl : Ls[i.val]? = some (.val (.int v))) (hp : pc + 1 = pc') (k : own_G p e below P (T.setTop (mkF m pc' Ls (.int v :: st)))) : own_G p e below P (T.setTop (mkF m pc Ls st)) := by
  subst hp; exact own_fw (fun t q => XS.iloadN X.here hx rfl hd hl q) k
theorem own_iload {i : Nat} {v : Int32} (X : Stand p l e R s m args below meth c T locs cells slots) (hx : p.tables.exec = Jvm.exec) (hd : decode c.code pc = .ok (.iload i, 2)) (hl : Ls[i]? = some (.val (.int v))) (hp : pc + 2 = pc') (k : own_G p e below P (T.setTop (mkF m pc' Ls (.int v :: st)))) : own_G p e below P (T.setTop (mkF m pc Ls st)) := by
  subst hp; exact own_fw (fun t q => XS.iload X.here hx rfl hd hl q) k
theorem own_lloadN {i : Fin 4} {v : Int64} (X : Stand p l e R s m args below meth c T locs cells slots) (hx : p.tables.exec = Jvm.exec) (hd : decode c.code pc = .ok (.lload_n i, 1)) (hl : Ls[i.val]? = some (.val (.long v))) (hp : pc + 1 = pc') (k : own_G p e below P (T.setTop (mkF m pc' Ls (.long v :: st)))) : own_G p e below P (T.setTop (mkF m pc Ls st)) := by
  subst hp; exact own_fw (fun t q => XS.lloadN X.here hx rfl hd hl q) k
theorem own_lload {i : Nat} {v : Int64} (X : Stand p l e R s m args below meth c T locs cells slots) (hx : p.tables.exec = Jvm.exec) (hd : decode c.code pc = .ok (.lload i, 2)) (hl : Ls[i]? = some (.val (.long v))) (hp : pc + 2 = pc') (k : own_G p e below P (T.setTop (mkF m pc' Ls (.long v :: st)))) : own_G p e below P (T.setTop (mkF m pc Ls st)) := by
  subst hp; exact own_fw (fun t q => XS.lload X.here hx rfl hd hl q) k
theorem own_aloadN {i : Fin 4} {v : Value} (X : Stand p l e R s m args below meth c T locs cells slots) (hx : p.tables.exec = Jvm.exec) (hd : decode c.code pc = .ok (.aload_n i, 1)) (hl : Ls[i.val]? = some (.val v)) (hv : v.isRef = true) (hp : pc + 1 = pc') (k : own_G p e below P (T.setTop (mkF m pc' Ls (v :: st)))) : own_G p e below P (T.setTop (mkF m pc Ls st)) := by
  subst hp; exact own_fw (fun t q => XS.aloadN X.here hx rfl hd hl hv q) k
theorem own_aload {i : Nat} {v : Value} (X : Stand p l e R s m args below meth c T locs cells slots) (hx : p.tables.exec = Jvm.exec) (hd : decode c.code pc = .ok (.aload i, 2)) (hl : Ls[i]? = some (.val v)) (hv : v.isRef = true) (hp : pc + 2 = pc') (k : own_G p e below P (T.setTop (mkF m pc' Ls (v :: st)))) : own_G p e below P (T.setTop (mkF m pc Ls st)) := by
  subst hp; exact own_fw (fun t q => XS.aload X.here hx rfl hd hl hv q) k
theorem own_istoreN {i : Fin 4} {v : Int32} (X : Stand p l e R s m args below meth c T locs cells slots) (hx : p.tables.exec = Jvm.exec) (hd : decode c.code pc = .ok (.istore_n i, 1)) {l' : Array Slot} (hl : storeLocals Ls i.val (.int v) = some l') (hp : pc + 1 = pc') (k : own_G p e below P (T.setTop (mkF m pc' l' st))) : own_G p e below P (T.setTop (mkF m pc Ls (.int v :: st))) := by
  subst hp; exact own_fw (fun t q => XS.istoreN X.here hx rfl hd rfl hl q) k
theorem own_istore {i : Nat} {v : Int32} (X : Stand p l e R s m args below meth c T locs cells slots) (hx : p.tables.exec = Jvm.exec) (hd : decode c.code pc = .ok (.istore i, 2)) {l' : Array Slot} (hl : storeLocals Ls i (.int v) = some l') (hp : pc + 2 = pc') (k : own_G p e below P (T.setTop (mkF m pc' l' st))) : own_G p e below P (T.setTop (mkF m pc Ls (.int v :: st))) := by
  subst hp; exact own_fw (fun t q => XS.istore X.here hx rfl hd rfl hl q) k
theorem own_lstoreN {i : Fin 4} {v : Int64} (X : Stand p l e R s m args below meth c T locs cells slots) (hx : p.tables.exec = Jvm.exec) (hd : decode c.code pc = .ok (.lstore_n i, 1)) {l' : Array Slot} (hl : storeLocals Ls i.val (.long v) = some l') (hp : pc + 1 = pc') (k : own_G p e below P (T.setTop (mkF m pc' l' st))) : own_G p e below P (T.setTop (mkF m pc Ls (.long v :: st))) := by
  subst hp; exact own_fw (fun t q => XS.lstoreN X.here hx rfl hd rfl hl q) k
theorem own_lstore {i : Nat} {v : Int64} (X : Stand p l e R s m args below meth c T locs cells slots) (hx : p.tables.exec = Jvm.exec) (hd : decode c.code pc = .ok (.lstore i, 2)) {l' : Array Slot} (hl : storeLocals Ls i (.long v) = some l') (hp : pc + 2 = pc') (k : own_G p e below P (T.setTop (mkF m pc' l' st))) : own_G p e below P (T.setTop (mkF m pc Ls (.long v :: st))) := by
  subst hp; exact own_fw (fun t q => XS.lstore X.here hx rfl hd rfl hl q) k
theorem own_astoreN {i : Fin 4} {v : Value} (X : Stand p l e R s m args below meth c T locs cells slots) (hx : p.tables.exec = Jvm.exec) (hd : decode c.code pc = .ok (.astore_n i, 1)) (hv : v.isRef = true) {l' : Array Slot} (hl : storeLocals Ls i.val v = some l') (hp : pc + 1 = pc') (k : own_G p e below P (T.setTop (mkF m pc' l' st))) : own_G p e below P (T.setTop (mkF m pc Ls (v :: st))) := by
  subst hp; exact own_fw (fun t q => XS.astoreN X.here hx rfl hd rfl hv hl q) k
theorem own_astore {i : Nat} {v : Value} (X : Stand p l e R s m args below meth c T locs cells slots) (hx : p.tables.exec = Jvm.exec) (hd : decode c.code pc = .ok (.astore i, 2)) (hv : v.isRef = true) {l' : Array Slot} (hl : storeLocals Ls i v = some l') (hp : pc + 2 = pc') (k : own_G p e below P (T.setTop (mkF m pc' l' st))) : own_G p e below P (T.setTop (mkF m pc Ls (v :: st))) := by
  subst hp; exact own_fw (fun t q => XS.astore X.here hx rfl hd rfl hv hl q) k
theorem own_iconst {i : Int} {z : Int32} (X : Stand p l e R s m args below meth c T locs cells slots) (hx : p.tables.exec = Jvm.exec) (hd : decode c.code pc = .ok (.iconst i, 1)) (hz : Int32.ofInt i = z) (hp : pc + 1 = pc') (k : own_G p e below P (T.setTop (mkF m pc' Ls (.int z :: st)))) : own_G p e below P (T.setTop (mkF m pc Ls st)) := by
  subst hp hz; exact own_fw (fun t q => XS.iconst X.here hx rfl hd q) k
theorem own_bipush {i : Int} {z : Int32} (X : Stand p l e R s m args below meth c T locs cells slots) (hx : p.tables.exec = Jvm.exec) (hd : decode c.code pc = .ok (.bipush i, 2)) (hz : (Int8.ofInt i).toInt32 = z) (hp : pc + 2 = pc') (k : own_G p e below P (T.setTop (mkF m pc' Ls (.int z :: st)))) : own_G p e below P (T.setTop (mkF m pc Ls st)) := by
  subst hp hz; exact own_fw (fun t q => XS.bipush X.here hx rfl hd q) k
theorem own_sipush {i : Int} {z : Int32} (X : Stand p l e R s m args below meth c T locs cells slots) (hx : p.tables.exec = Jvm.exec) (hd : decode c.code pc = .ok (.sipush i, 3)) (hz : (Int16.ofInt i).toInt32 = z) (hp : pc + 3 = pc') (k : own_G p e below P (T.setTop (mkF m pc' Ls (.int z :: st)))) : own_G p e below P (T.setTop (mkF m pc Ls st)) := by
  subst hp hz; exact own_fw (fun t q => XS.sipush X.here hx rfl hd q) k
theorem own_lconst {i : Fin 2} {z : Int64} (X : Stand p l e R s m args below meth c T locs cells slots) (hx : p.tables.exec = Jvm.exec) (hd : decode c.code pc = .ok (.lconst i, 1)) (hz : Int64.ofNat i = z) (hp : pc + 1 = pc') (k : own_G p e below P (T.setTop (mkF m pc' Ls (.long z :: st)))) : own_G p e below P (T.setTop (mkF m pc Ls st)) := by
  subst hp hz; exact own_fw (fun t q => XS.lconst X.here hx rfl hd q) k
theorem own_aconstNull (X : Stand p l e R s m args below meth c T locs cells slots) (hx : p.tables.exec = Jvm.exec) (hd : decode c.code pc = .ok (.aconst_null, 1)) (hp : pc + 1 = pc') (k : own_G p e below P (T.setTop (mkF m pc' Ls (.null :: st)))) : own_G p e below P (T.setTop (mkF m pc Ls st)) := by
  subst hp; exact own_fw (fun t q => XS.aconstNull X.here hx rfl hd q) k
theorem own_ldc (X : Stand p l e R s m args below meth c T locs cells slots) (hx : p.tables.exec = Jvm.exec) (hZ : Z.Warmed39 s.vm) {own : String} {index : Nat} {v : Int32} (hown : s.vm.findClass own = some m.cls) (w1 : (Jvm.Cond.constant own index v).before a0 Z = true) (hd : decode c.code pc = .ok (.ldc index, 2)) (hp : pc + 2 = pc') (k : own_G p e below P (T.setTop (mkF m pc' Ls (.int v :: st)))) : own_G p e below P (T.setTop (mkF m pc Ls st)) := by
  subst hp; exact own_fw (X.ldcInt hx hown (mvT hZ w1) (g := mkF m pc Ls st) rfl hd) k
theorem own_ldc2 (X : Stand p l e R s m args below meth c T locs cells slots) (hx : p.tables.exec = Jvm.exec) (hZ : Z.Warmed39 s.vm) {own : String} {index : Nat} {v : Int64} (hown : s.vm.findClass own = some m.cls) (w1 : (Jvm.Cond.constantLong own index v).before a0 Z = true) (hd : decode c.code pc = .ok (.ldc2_w index, 3)) (hp : pc + 3 = pc') (k : own_G p e below P (T.setTop (mkF m pc' Ls (.long v :: st)))) : own_G p e below P (T.setTop (mkF m pc Ls st)) := by
  subst hp; exact own_fw (X.ldc2Long hx hown (mvT hZ w1) (g := mkF m pc Ls st) rfl hd) k
theorem own_iadd {x y : Int32} (X : Stand p l e R s m args below meth c T locs cells slots) (hx : p.tables.exec = Jvm.exec) (hd : decode c.code pc = .ok (.iadd, 1)) (hp : pc + 1 = pc') (k : own_G p e below P (T.setTop (mkF m pc' Ls (.int (x + y) :: st)))) : own_G p e below P (T.setTop (mkF m pc Ls (.int y :: .int x :: st))) := by
  subst hp; exact own_fw (fun t q => XS.iadd X.here hx rfl hd rfl q) k
theorem own_isub {x y : Int32} (X : Stand p l e R s m args below meth c T locs cells slots) (hx : p.tables.exec = Jvm.exec) (hd : decode c.code pc = .ok (.isub, 1)) (hp : pc + 1 = pc') (k : own_G p e below P (T.setTop (mkF m pc' Ls (.int (x - y) :: st)))) : own_G p e below P (T.setTop (mkF m pc Ls (.int y :: .int x :: st))) := by
  subst hp; exact own_fw (fun t q => XS.isub X.here hx rfl hd rfl q) k
theorem own_imul {x y : Int32} (X : Stand p l e R s m args below meth c T locs cells slots) (hx : p.tables.exec = Jvm.exec) (hd : decode c.code pc = .ok (.imul, 1)) (hp : pc + 1 = pc') (k : own_G p e below P (T.setTop (mkF m pc' Ls (.int (x * y) :: st)))) : own_G p e below P (T.setTop (mkF m pc Ls (.int y :: .int x :: st))) := by
  subst hp; exact own_fw (fun t q => XS.imul X.here hx rfl hd rfl q) k
theorem own_iand {x y : Int32} (X : Stand p l e R s m args below meth c T locs cells slots) (hx : p.tables.exec = Jvm.exec) (hd : decode c.code pc = .ok (.iand, 1)) (hp : pc + 1 = pc') (k : own_G p e below P (T.setTop (mkF m pc' Ls (.int (x &&& y) :: st)))) : own_G p e below P (T.setTop (mkF m pc Ls (.int y :: .int x :: st))) := by
  subst hp; exact own_fw (fun t q => XS.iand X.here hx rfl hd rfl q) k
theorem own_ior {x y : Int32} (X : Stand p l e R s m args below meth c T locs cells slots) (hx : p.tables.exec = Jvm.exec) (hd : decode c.code pc = .ok (.ior, 1)) (hp : pc + 1 = pc') (k : own_G p e below P (T.setTop (mkF m pc' Ls (.int (x ||| y) :: st)))) : own_G p e below P (T.setTop (mkF m pc Ls (.int y :: .int x :: st))) := by
  subst hp; exact own_fw (fun t q => XS.ior X.here hx rfl hd rfl q) k
theorem own_ixor {x y : Int32} (X : Stand p l e R s m args below meth c T locs cells slots) (hx : p.tables.exec = Jvm.exec) (hd : decode c.code pc = .ok (.ixor, 1)) (hp : pc + 1 = pc') (k : own_G p e below P (T.setTop (mkF m pc' Ls (.int (x ^^^ y) :: st)))) : own_G p e below P (T.setTop (mkF m pc Ls (.int y :: .int x :: st))) := by
  subst hp; exact own_fw (fun t q => XS.ixor X.here hx rfl hd rfl q) k
theorem own_ishl {x y : Int32} (X : Stand p l e R s m args below meth c T locs cells slots) (hx : p.tables.exec = Jvm.exec) (hd : decode c.code pc = .ok (.ishl, 1)) (hp : pc + 1 = pc') (k : own_G p e below P (T.setTop (mkF m pc' Ls (.int (x <<< (y &&& 31)) :: st)))) : own_G p e below P (T.setTop (mkF m pc Ls (.int y :: .int x :: st))) := by
  subst hp; exact own_fw (fun t q => XS.ishl X.here hx rfl hd rfl q) k
theorem own_ishr {x y : Int32} (X : Stand p l e R s m args below meth c T locs cells slots) (hx : p.tables.exec = Jvm.exec) (hd : decode c.code pc = .ok (.ishr, 1)) (hp : pc + 1 = pc') (k : own_G p e below P (T.setTop (mkF m pc' Ls (.int (x >>> (y &&& 31)) :: st)))) : own_G p e below P (T.setTop (mkF m pc Ls (.int y :: .int x :: st))) := by
  subst hp; exact own_fw (fun t q => XS.ishr X.here hx rfl hd rfl q) k
theorem own_iushr {x y : Int32} (X : Stand p l e R s m args below meth c T locs cells slots) (hx : p.tables.exec = Jvm.exec) (hd : decode c.code pc = .ok (.iushr, 1)) (hp : pc + 1 = pc') (k : own_G p e below P (T.setTop (mkF m pc' Ls (.int ((x.toUInt32 >>> (y &&& 31).toUInt32).toInt32) :: st)))) : own_G p e below P (T.setTop (mkF m pc Ls (.int y :: .int x :: st))) := by
  subst hp; exact own_fw (fun t q => XS.iushr X.here hx rfl hd rfl q) k
theorem own_ladd {x y : Int64} (X : Stand p l e R s m args below meth c T locs cells slots) (hx : p.tables.exec = Jvm.exec) (hd : decode c.code pc = .ok (.ladd, 1)) (hp : pc + 1 = pc') (k : own_G p e below P (T.setTop (mkF m pc' Ls (.long (x + y) :: st)))) : own_G p e below P (T.setTop (mkF m pc Ls (.long y :: .long x :: st))) := by
  subst hp; exact own_fw (fun t q => XS.ladd X.here hx rfl hd rfl q) k
theorem own_lsub {x y : Int64} (X : Stand p l e R s m args below meth c T locs cells slots) (hx : p.tables.exec = Jvm.exec) (hd : decode c.code pc = .ok (.lsub, 1)) (hp : pc + 1 = pc') (k : own_G p e below P (T.setTop (mkF m pc' Ls (.long (x - y) :: st)))) : own_G p e below P (T.setTop (mkF m pc Ls (.long y :: .long x :: st))) := by
  subst hp; exact own_fw (fun t q => XS.lsub X.here hx rfl hd rfl q) k
theorem own_lmul {x y : Int64} (X : Stand p l e R s m args below meth c T locs cells slots) (hx : p.tables.exec = Jvm.exec) (hd : decode c.code pc = .ok (.lmul, 1)) (hp : pc + 1 = pc') (k : own_G p e below P (T.setTop (mkF m pc' Ls (.long (x * y) :: st)))) : own_G p e below P (T.setTop (mkF m pc Ls (.long y :: .long x :: st))) := by
  subst hp; exact own_fw (fun t q => XS.lmul X.here hx rfl hd rfl q) k
theorem own_land {x y : Int64} (X : Stand p l e R s m args below meth c T locs cells slots) (hx : p.tables.exec = Jvm.exec) (hd : decode c.code pc = .ok (.land, 1)) (hp : pc + 1 = pc') (k : own_G p e below P (T.setTop (mkF m pc' Ls (.long (x &&& y) :: st)))) : own_G p e below P (T.setTop (mkF m pc Ls (.long y :: .long x :: st))) := by
  subst hp; exact own_fw (fun t q => XS.land X.here hx rfl hd rfl q) k
theorem own_lor {x y : Int64} (X : Stand p l e R s m args below meth c T locs cells slots) (hx : p.tables.exec = Jvm.exec) (hd : decode c.code pc = .ok (.lor, 1)) (hp : pc + 1 = pc') (k : own_G p e below P (T.setTop (mkF m pc' Ls (.long (x ||| y) :: st)))) : own_G p e below P (T.setTop (mkF m pc Ls (.long y :: .long x :: st))) := by
  subst hp; exact own_fw (fun t q => XS.lor X.here hx rfl hd rfl q) k
theorem own_lxor {x y : Int64} (X : Stand p l e R s m args below meth c T locs cells slots) (hx : p.tables.exec = Jvm.exec) (hd : decode c.code pc = .ok (.lxor, 1)) (hp : pc + 1 = pc') (k : own_G p e below P (T.setTop (mkF m pc' Ls (.long (x ^^^ y) :: st)))) : own_G p e below P (T.setTop (mkF m pc Ls (.long y :: .long x :: st))) := by
  subst hp; exact own_fw (fun t q => XS.lxor X.here hx rfl hd rfl q) k
theorem own_lshl {x : Int64} {y : Int32} (X : Stand p l e R s m args below meth c T locs cells slots) (hx : p.tables.exec = Jvm.exec) (hd : decode c.code pc = .ok (.lshl, 1)) (hp : pc + 1 = pc') (k : own_G p e below P (T.setTop (mkF m pc' Ls (.long (x <<< (y &&& 0x3f).toInt64) :: st)))) : own_G p e below P (T.setTop (mkF m pc Ls (.int y :: .long x :: st))) := by
  subst hp; exact own_fw (fun t q => XS.lshl X.here hx rfl hd rfl q) k
theorem own_lshr {x : Int64} {y : Int32} (X : Stand p l e R s m args below meth c T locs cells slots) (hx : p.tables.exec = Jvm.exec) (hd : decode c.code pc = .ok (.lshr, 1)) (hp : pc + 1 = pc') (k : own_G p e below P (T.setTop (mkF m pc' Ls (.long (x >>> (y &&& 0x3f).toInt64) :: st)))) : own_G p e below P (T.setTop (mkF m pc Ls (.int y :: .long x :: st))) := by
  subst hp; exact own_fw (fun t q => XS.lshr X.here hx rfl hd rfl q) k
theorem own_lushr {x : Int64} {y : Int32} (X : Stand p l e R s m args below meth c T locs cells slots) (hx : p.tables.exec = Jvm.exec) (hd : decode c.code pc = .ok (.lushr, 1)) (hp : pc + 1 = pc') (k : own_G p e below P (T.setTop (mkF m pc' Ls (.long ((x.toUInt64 >>> (y &&& 0x3f).toInt64.toUInt64).toInt64) :: st)))) : own_G p e below P (T.setTop (mkF m pc Ls (.int y :: .long x :: st))) := by
  subst hp; exact own_fw (fun t q => XS.lushr X.here hx rfl hd rfl q) k
theorem own_idiv {x y : Int32} (X : Stand p l e R s m args below meth c T locs cells slots) (hx : p.tables.exec = Jvm.exec) (hd : decode c.code pc = .ok (.idiv, 1)) (hy : y ≠ 0) (hp : pc + 1 = pc') (k : own_G p e below P (T.setTop (mkF m pc' Ls (.int (x / y) :: st)))) : own_G p e below P (T.setTop (mkF m pc Ls (.int y :: .int x :: st))) := by
  subst hp; exact own_fw (fun t q => XS.idiv X.here hx rfl hd rfl hy q) k
theorem own_ldiv {x y : Int64} (X : Stand p l e R s m args below meth c T locs cells slots) (hx : p.tables.exec = Jvm.exec) (hd : decode c.code pc = .ok (.ldiv, 1)) (hy : y ≠ 0) (hp : pc + 1 = pc') (k : own_G p e below P (T.setTop (mkF m pc' Ls (.long (x / y) :: st)))) : own_G p e below P (T.setTop (mkF m pc Ls (.long y :: .long x :: st))) := by
  subst hp; exact own_fw (fun t q => XS.ldiv X.here hx rfl hd rfl hy q) k
theorem own_irem {x y : Int32} (X : Stand p l e R s m args below meth c T locs cells slots) (hx : p.tables.exec = Jvm.exec) (hd : decode c.code pc = .ok (.irem, 1)) (hy : y ≠ 0) (hp : pc + 1 = pc') (k : own_G p e below P (T.setTop (mkF m pc' Ls (.int (x % y) :: st)))) : own_G p e below P (T.setTop (mkF m pc Ls (.int y :: .int x :: st))) := by
  subst hp; exact own_fw (fun t q => iremM X hx rfl hd rfl hy q) k
theorem own_lrem {x y : Int64} (X : Stand p l e R s m args below meth c T locs cells slots) (hx : p.tables.exec = Jvm.exec) (hd : decode c.code pc = .ok (.lrem, 1)) (hy : y ≠ 0) (hp : pc + 1 = pc') (k : own_G p e below P (T.setTop (mkF m pc' Ls (.long (x % y) :: st)))) : own_G p e below P (T.setTop (mkF m pc Ls (.long y :: .long x :: st))) := by
  subst hp; rw [← lrem_mod] at k; exact own_fw (fun t q => XS.lrem X.here hx rfl hd rfl hy q) k
theorem own_ineg {x : Int32} (X : Stand p l e R s m args below meth c T locs cells slots) (hx : p.tables.exec = Jvm.exec) (hd : decode c.code pc = .ok (.ineg, 1)) (hp : pc + 1 = pc') (k : own_G p e below P (T.setTop (mkF m pc' Ls (.int (-x) :: st)))) : own_G p e below P (T.setTop (mkF m pc Ls (.int x :: st))) := by
  subst hp; exact own_fw (fun t q => XS.ineg X.here hx rfl hd rfl q) k
theorem own_lneg {x : Int64} (X : Stand p l e R s m args below meth c T locs cells slots) (hx : p.tables.exec = Jvm.exec) (hd : decode c.code pc = .ok (.lneg, 1)) (hp : pc + 1 = pc') (k : own_G p e below P (T.setTop (mkF m pc' Ls (.long (-x) :: st)))) : own_G p e below P (T.setTop (mkF m pc Ls (.long x :: st))) := by
  subst hp; exact own_fw (fun t q => XS.lneg X.here hx rfl hd rfl q) k
theorem own_i2l {x : Int32} (X : Stand p l e R s m args below meth c T locs cells slots) (hx : p.tables.exec = Jvm.exec) (hd : decode c.code pc = .ok (.i2l, 1)) (hp : pc + 1 = pc') (k : own_G p e below P (T.setTop (mkF m pc' Ls (.long x.toInt64 :: st)))) : own_G p e below P (T.setTop (mkF m pc Ls (.int x :: st))) := by
  subst hp; exact own_fw (fun t q => XS.i2l X.here hx rfl hd rfl q) k
theorem own_l2i {x : Int64} (X : Stand p l e R s m args below meth c T locs cells slots) (hx : p.tables.exec = Jvm.exec) (hd : decode c.code pc = .ok (.l2i, 1)) (hp : pc + 1 = pc') (k : own_G p e below P (T.setTop (mkF m pc' Ls (.int x.toInt32 :: st)))) : own_G p e below P (T.setTop (mkF m pc Ls (.long x :: st))) := by
  subst hp; exact own_fw (fun t q => XS.l2i X.here hx rfl hd rfl q) k
theorem own_i2b {x : Int32} (X : Stand p l e R s m args below meth c T locs cells slots) (hx : p.tables.exec = Jvm.exec) (hd : decode c.code pc = .ok (.i2b, 1)) (hp : pc + 1 = pc') (k : own_G p e below P (T.setTop (mkF m pc' Ls (.int x.toInt8.toInt32 :: st)))) : own_G p e below P (T.setTop (mkF m pc Ls (.int x :: st))) := by
  subst hp; exact own_fw (fun t q => XS.i2b X.here hx rfl hd rfl q) k
theorem own_lcmp {x y : Int64} (X : Stand p l e R s m args below meth c T locs cells slots) (hx : p.tables.exec = Jvm.exec) (hd : decode c.code pc = .ok (.lcmp, 1)) (hp : pc + 1 = pc') (k : own_G p e below P (T.setTop (mkF m pc' Ls (.int (lcmpW x y) :: st)))) : own_G p e below P (T.setTop (mkF m pc Ls (.long y :: .long x :: st))) := by
  subst hp; exact own_fw (fun t q => XS.lcmp X.here hx rfl hd rfl q) k
theorem own_dup {x : Value} (X : Stand p l e R s m args below meth c T locs cells slots) (hx : p.tables.exec = Jvm.exec) (hd : decode c.code pc = .ok (.dup, 1)) (hc : x.category = 1) (hp : pc + 1 = pc') (k : own_G p e below P (T.setTop (mkF m pc' Ls (x :: x :: st)))) : own_G p e below P (T.setTop (mkF m pc Ls (x :: st))) := by
  subst hp; exact own_fw (fun t q => XS.dup X.here hx rfl hd rfl hc q) k
theorem own_pop {x : Value} (X : Stand p l e R s m args below meth c T locs cells slots) (hx : p.tables.exec = Jvm.exec) (hd : decode c.code pc = .ok (.pop, 1)) (hc : x.category = 1) (hp : pc + 1 = pc') (k : own_G p e below P (T.setTop (mkF m pc' Ls st))) : own_G p e below P (T.setTop (mkF m pc Ls (x :: st))) := by
  subst hp; exact own_fw (fun t q => XS.pop X.here hx rfl hd rfl hc q) k
theorem own_dupX1 {x y : Value} (X : Stand p l e R s m args below meth c T locs cells slots) (hx : p.tables.exec = Jvm.exec) (hd : decode c.code pc = .ok (.dup_x1, 1)) (hc : x.category = 1) (hc' : y.category = 1) (hp : pc + 1 = pc') (k : own_G p e below P (T.setTop (mkF m pc' Ls (x :: y :: x :: st)))) : own_G p e below P (T.setTop (mkF m pc Ls (x :: y :: st))) := by
  subst hp; exact own_fw (fun t q => XS.dupX1 X.here hx rfl hd rfl hc hc' q) k
theorem own_dup2 {x y : Value} (X : Stand p l e R s m args below meth c T locs cells slots) (hx : p.tables.exec = Jvm.exec) (hd : decode c.code pc = .ok (.dup2, 1)) (hc : x.category = 1) (hc' : y.category = 1) (hp : pc + 1 = pc') (k : own_G p e below P (T.setTop (mkF m pc' Ls (x :: y :: x :: y :: st)))) : own_G p e below P (T.setTop (mkF m pc Ls (x :: y :: st))) := by
  subst hp; exact own_fw (fun t q => XT.dup2 X.here hx rfl hd rfl hc hc' q) k
theorem own_iinc {i : Nat} {cst : Int} {x z : Int32} (X : Stand p l e R s m args below meth c T locs cells slots) (hx : p.tables.exec = Jvm.exec) (hd : decode c.code pc = .ok (.iinc i cst, 3)) (hl : Ls[i]? = some (.val (.int x))) (hz : Int32.ofInt cst = z) {l' : Array Slot} (hl' : storeLocals Ls i (.int (x + z)) = some l') (hp : pc + 3 = pc') (k : own_G p e below P (T.setTop (mkF m pc' l' st))) : own_G p e below P (T.setTop (mkF m pc Ls st)) := by
  subst hp hz; exact own_fw (fun t q => XS.iinc X.here hx rfl hd hl hl' q) k
theorem own_goto {o : Int} (X : Stand p l e R s m args below meth c T locs cells slots) (hx : p.tables.exec = Jvm.exec) (hd : decode c.code pc = .ok (.goto o, 3)) (ho : 0 ≤ (pc : Int) + o) (hp : ((pc : Int) + o).toNat = pc') (k : own_G p e below P (T.setTop (mkF m pc' Ls st))) : own_G p e below P (T.setTop (mkF m pc Ls st)) := own_fw (fun t q => XS.goto X.here hx rfl (pc0 := pc) rfl hd ho hp q) k
theorem own_icmpT {o : Int} {cd : ClassFile.Cond} {x y : Int32} (X : Stand p l e R s m args below meth c T locs cells slots) (hx : p.tables.exec = Jvm.exec) (hd : decode c.code pc = .ok (.if_icmp cd o, 3)) (hc : if_icmp.holds cd x y = true) (ho : 0 ≤ (pc : Int) + o) (hp : ((pc : Int) + o).toNat = pc') (k : own_G p e below P (T.setTop (mkF m pc' Ls st))) : own_G p e below P (T.setTop (mkF m pc Ls (.int y :: .int x :: st))) := own_fw (fun t q => XS.icmpYes X.here hx rfl (pc0 := pc) rfl hd rfl hc ho hp q) k
theorem own_icmpF {o : Int} {cd : ClassFile.Cond} {x y : Int32} (X : Stand p l e R s m args below meth c T locs cells slots) (hx : p.tables.exec = Jvm.exec) (hd : decode c.code pc = .ok (.if_icmp cd o, 3)) (hc : if_icmp.holds cd x y = false) (hp : pc + 3 = pc') (k : own_G p e below P (T.setTop (mkF m pc' Ls st))) : own_G p e below P (T.setTop (mkF m pc Ls (.int y :: .int x :: st))) := by
  subst hp; exact own_fw (fun t q => XS.icmpNo X.here hx rfl hd rfl hc q) k
theorem own_ifT {o : Int} {cd : ClassFile.Cond} {x : Int32} (X : Stand p l e R s m args below meth c T locs cells slots) (hx : p.tables.exec = Jvm.exec) (hd : decode c.code pc = .ok (.ifCond cd o, 3)) (hc : if_icmp.holds cd x 0 = true) (ho : 0 ≤ (pc : Int) + o) (hp : ((pc : Int) + o).toNat = pc') (k : own_G p e below P (T.setTop (mkF m pc' Ls st))) : own_G p e below P (T.setTop (mkF m pc Ls (.int x :: st))) := own_fw (fun t q => XS.ifYes X.here hx rfl (pc0 := pc) rfl hd rfl ((if0 cd x).trans hc) ho hp q) k
theorem own_ifF {o : Int} {cd : ClassFile.Cond} {x : Int32} (X : Stand p l e R s m args below meth c T locs cells slots) (hx : p.tables.exec = Jvm.exec) (hd : decode c.code pc = .ok (.ifCond cd o, 3)) (hc : if_icmp.holds cd x 0 = false) (hp : pc + 3 = pc') (k : own_G p e below P (T.setTop (mkF m pc' Ls st))) : own_G p e below P (T.setTop (mkF m pc Ls (.int x :: st))) := by
  subst hp; exact own_fw (fun t q => XS.ifNo X.here hx rfl hd rfl ((if0 cd x).trans hc) q) k
theorem own_ltL {x y : Int64} (h : x < y) : if_icmp.holds .lt (lcmpW x y) 0 = true ∧ if_icmp.holds .ge (lcmpW x y) 0 = false ∧ if_icmp.holds .gt (lcmpW y x) 0 = true ∧ if_icmp.holds .le (lcmpW y x) 0 = false := by
  have h1 := (lw_lt x y).mpr h
  have h2 := (lw_gt y x).mpr h
  exact ⟨(tlt h1).1, (tlt h1).2.1, (tlt h2).2.2.1, (tlt h2).2.2.2⟩
theorem own_geL {x y : Int64} (h : ¬ x < y) : if_icmp.holds .lt (lcmpW x y) 0 = false ∧ if_icmp.holds .ge (lcmpW x y) 0 = true ∧ if_icmp.holds .gt (lcmpW y x) 0 = false ∧ if_icmp.holds .le (lcmpW y x) 0 = true := by
  have h1 : ¬ lcmpW x y < 0 := fun q => h ((lw_lt x y).mp q)
  have h2 : ¬ 0 < lcmpW y x := fun q => h ((lw_gt y x).mp q)
  exact ⟨(flt h1).1, (flt h1).2.1, (flt h2).2.2.1, (flt h2).2.2.2⟩
theorem own_eqL {x y : Int64} (h : x = y) : if_icmp.holds .eq (lcmpW x y) 0 = true ∧ if_icmp.holds .ne (lcmpW x y) 0 = false := teq ((lw_eq x y).mpr h)
theorem own_neL {x y : Int64} (h : ¬ x = y) : if_icmp.holds .eq (lcmpW x y) 0 = false ∧ if_icmp.holds .ne (lcmpW x y) 0 = true := feq (fun q => h ((lw_eq x y).mp q))
theorem own_bT {P : Prop} [Decidable P] (h : P) : if_icmp.holds .eq (if P then (1 : Int32) else 0) 0 = false ∧ if_icmp.holds .ne (if P then (1 : Int32) else 0) 0 = true := by rw [if_pos h]; exact ⟨rfl, rfl⟩
theorem own_bF {P : Prop} [Decidable P] (h : ¬ P) : if_icmp.holds .eq (if P then (1 : Int32) else 0) 0 = true ∧ if_icmp.holds .ne (if P then (1 : Int32) else 0) 0 = false := by rw [if_neg h]; exact ⟨rfl, rfl⟩
theorem own_b01 {P : Prop} [Decidable P] : (if P then (1 : Int32) else 0) = 0 ∨ (if P then (1 : Int32) else 0) = 1 := by by_cases h : P <;> simp [h]
theorem own_ifnonnullT {o : Int} {b : Addr} (X : Stand p l e R s m args below meth c T locs cells slots) (hx : p.tables.exec = Jvm.exec) (hd : decode c.code pc = .ok (.ifnonnull o, 3)) (ho : 0 ≤ (pc : Int) + o) (hp : ((pc : Int) + o).toNat = pc') (k : own_G p e below P (T.setTop (mkF m pc' Ls st))) : own_G p e below P (T.setTop (mkF m pc Ls (.ref b :: st))) := own_fw (fun t q => XS.ifnonnullYes X.here hx rfl (pc0 := pc) rfl hd rfl ho hp q) k
theorem own_ifnonnullF {o : Int} (X : Stand p l e R s m args below meth c T locs cells slots) (hx : p.tables.exec = Jvm.exec) (hd : decode c.code pc = .ok (.ifnonnull o, 3)) (hp : pc + 3 = pc') (k : own_G p e below P (T.setTop (mkF m pc' Ls st))) : own_G p e below P (T.setTop (mkF m pc Ls (.null :: st))) := by
  subst hp; exact own_fw (fun t q => XS.ifnonnullNo X.here hx rfl hd rfl q) k
theorem own_ifnullT {o : Int} (X : Stand p l e R s m args below meth c T locs cells slots) (hx : p.tables.exec = Jvm.exec) (hd : decode c.code pc = .ok (.ifnull o, 3)) (ho : 0 ≤ (pc : Int) + o) (hp : ((pc : Int) + o).toNat = pc') (k : own_G p e below P (T.setTop (mkF m pc' Ls st))) : own_G p e below P (T.setTop (mkF m pc Ls (.null :: st))) := own_fw (fun t q => XS.ifnullYes X.here hx rfl (pc0 := pc) rfl hd rfl ho hp q) k
theorem own_ifnullF {o : Int} {b : Addr} (X : Stand p l e R s m args below meth c T locs cells slots) (hx : p.tables.exec = Jvm.exec) (hd : decode c.code pc = .ok (.ifnull o, 3)) (hp : pc + 3 = pc') (k : own_G p e below P (T.setTop (mkF m pc' Ls st))) : own_G p e below P (T.setTop (mkF m pc Ls (.ref b :: st))) := by
  subst hp; exact own_fw (fun t q => XS.ifnullNo X.here hx rfl hd rfl q) k
theorem own_acmpT {o : Int} {cd : ACond} {x y : Value} (X : Stand p l e R s m args below meth c T locs cells slots) (hx : p.tables.exec = Jvm.exec) (hd : decode c.code pc = .ok (.if_acmp cd o, 3)) (h1 : x.isRef = true) (h2 : y.isRef = true) (hc : XT.acmp cd x y = true) (ho : 0 ≤ (pc : Int) + o) (hp : ((pc : Int) + o).toNat = pc') (k : own_G p e below P (T.setTop (mkF m pc' Ls st))) : own_G p e below P (T.setTop (mkF m pc Ls (y :: x :: st))) := own_fw (fun t q => XT.acmpYes X.here hx rfl (pc0 := pc) rfl hd rfl h1 h2 hc ho hp q) k
theorem own_acmpF {o : Int} {cd : ACond} {x y : Value} (X : Stand p l e R s m args below meth c T locs cells slots) (hx : p.tables.exec = Jvm.exec) (hd : decode c.code pc = .ok (.if_acmp cd o, 3)) (h1 : x.isRef = true) (h2 : y.isRef = true) (hc : XT.acmp cd x y = false) (hp : pc + 3 = pc') (k : own_G p e below P (T.setTop (mkF m pc' Ls st))) : own_G p e below P (T.setTop (mkF m pc Ls (y :: x :: st))) := by
  subst hp; exact own_fw (fun t q => XT.acmpNo X.here hx rfl hd rfl h1 h2 hc q) k
theorem own_getF (X : Stand p l e R s m args below meth c T locs cells slots) (hx : p.tables.exec = Jvm.exec) (hZ : Z.Warmed39 s.vm) {own O n d : String} {index : Nat} (hown : s.vm.findClass own = some m.cls) (w1 : (Jvm.Cond.fieldLink own index O n d).before a0 Z = true) (eT : T.heap = h) {a : Addr} {v : Value} (F : Fld Z h a O n d v) (hd : decode c.code pc = .ok (.getfield index, 3)) (hp : pc + 3 = pc')
    (k : ∀ T' : State, Stand p l e R s m args below meth c T' locs cells slots → T'.heap = h → own_G p e below P (T'.setTop (mkF m pc' Ls (v :: st)))) : own_G p e below P (T.setTop (mkF m pc Ls (.ref a :: st))) := by
  subst hp
  obtain ⟨T', X', e', st'⟩ := getF X hx hZ hown (host := "") (Or.inl w1) Via.refl eT F (g := mkF m pc Ls (.ref a :: st)) rfl rfl hd
  exact own_fw st' (k T' X' e')
theorem own_putF (X : Stand p l e R s m args below meth c T locs cells slots) (hx : p.tables.exec = Jvm.exec) (hZ : Z.Warmed39 s.vm) {own O n d C : String} {index kk : Nat} {ty : FieldType} (hown : s.vm.findClass own = some m.cls) (w1 : (Jvm.Cond.fieldLink own index O n d).before a0 Z = true) (eT : T.heap = h) {a : Addr} {v old : Value} (F : Fld Z h a O n d old) (E : Exa Z h a C) (L : (Jvm.Cond.lays C O n d).before a0 Z = true ∨ ((Jvm.Cond.laysFinal C O n d).before a0 Z = true ∧ own = O ∧ meth.name = "<init>")) (wi : (Jvm.Cond.instantiable C kk).before a0 Z = true) (hty : parseFieldDescriptor d = some ty) (hn : narrow ty v = v) (hf : fits ty v = true) (hd : decode c.code pc = .ok (.putfield index, 3)) (hp : pc + 3 = pc')
    (k : ∀ (T' : State) (h' : Heap), Stand p l e R s m args below meth c T' (locs ++ [⟨a, RoadKit.slotOf Z O n d⟩]) cells slots → T'.heap = h' → Wr h h' a (RoadKit.slotOf Z O n d) v → own_G p e below P (T'.setTop (mkF m pc' Ls st))) : own_G p e below P (T.setTop (mkF m pc Ls (v :: .ref a :: st))) := by
  subst hp
  obtain ⟨T', h', X', e', W', st'⟩ := putF X hx hZ hown (host := "") (Or.inl w1) Via.refl eT F E L wi hty hn hf (g := mkF m pc Ls (v :: .ref a :: st)) rfl rfl hd
  exact own_fw st' (k T' h' X' e' W')
theorem own_new (X : Stand p l e R s m args below meth c T locs cells slots) (hx : p.tables.exec = Jvm.exec) (hZ : Z.Warmed39 s.vm) {own C : String} {index n : Nat} (hown : s.vm.findClass own = some m.cls) (w1 : (Jvm.Cond.classLink own index C).before a0 Z = true) (wi : (Jvm.Cond.instantiable C n).before a0 Z = true) (wz : (Jvm.Cond.initialized C).before a0 Z = true) (eT : T.heap = h) (hd : decode c.code pc = .ok (.new index, 3)) (hp : pc + 3 = pc') (hc : cells + 1 ≤ R.cells) (hl : slots + n ≤ R.slots)
    (k : ∀ (T' : State) (h' : Heap) (a : Addr), a = h.size → Stand p l e R s m args below meth c T' locs (cells + 1) (slots + n) → T'.heap = h' → Ext h h' → Exa Z h' a C → (∀ {O nm d : String} {ty : FieldType}, Laid Z a0 C O nm d → parseFieldDescriptor d = some ty → Fld Z h' a O nm d (defaultValue ty)) → own_G p e below P (T'.setTop (mkF m pc' Ls (.ref a :: st)))) : own_G p e below P (T.setTop (mkF m pc Ls st)) := by
  subst hp
  obtain ⟨T', h', X', e', E', A', D', -, st'⟩ := newO X hx hZ hown w1 wi wz eT (g := mkF m pc Ls st) rfl hd hc hl
  exact own_fw st' (k T' h' h.size rfl X' e' E' A' D')
theorem own_initO (X : Stand p l e R s m args below meth c T locs cells slots) (hx : p.tables.exec = Jvm.exec) (hZ : Z.Warmed39 s.vm) {own : String} {idx : Nat} (hown : s.vm.findClass own = some m.cls) (w1 : (Jvm.Cond.methodLink own idx Lib.objectInit).before a0 Z = true) (w2 : (Jvm.Cond.instanceMethod Lib.objectInit).before a0 Z = true) (w3 : (Jvm.Cond.code Lib.objectInit object_method_1_code 1 none).before a0 Z = true) (eT : T.heap = h) (hsize : Ls.size = c.maxLocals) {a : Addr} (hd : decode c.code pc = .ok (.invokespecial idx, 3)) (hf : 1 ≤ R.frames) {W : Nat} (hW : (st.map fun v => v.category).sum ≤ W) (hl : W + 12 ≤ R.locals) (hp : pc + 3 = pc')
    (k : ∀ T' : State, Stand p l e R s m args below meth c T' locs cells slots → T'.heap = h → own_G p e below P (T'.setTop (mkF m pc' Ls st))) : own_G p e below P (T.setTop (mkF m pc Ls (.ref a :: st))) := by
  subst hp
  obtain ⟨T', X', e', st'⟩ := initO X hx hZ hown w1 w2 w3 eT (g := mkF m pc Ls (.ref a :: st)) rfl hsize rfl hd hf (W := W) (by show 2 * 0 + _ ≤ _; omega) hl
  exact own_fw st' (k T' X' e')
theorem own_callS (X : Stand p l e R s m args below meth c T locs cells slots) (hx : p.tables.exec = Jvm.exec) (hZ : Z.Warmed39 s.vm) {own : String} {index : Nat} {y : MethodName} {bytes : ByteArray} {maxL : Nat} {ret : Option FieldType} (hown : s.vm.findClass own = some m.cls) (w1 : (Jvm.Cond.methodLink own index y).before a0 Z = true) (w2 : (Jvm.Cond.static y).before a0 Z = true) (w3 : (Jvm.Cond.initialized y.cls).before a0 Z = true) (w4 : (Jvm.Cond.code y bytes maxL ret).before a0 Z = true) (hy : y.cls ≠ "java/lang/invoke/MethodHandle" ∧ y.cls ≠ "java/lang/invoke/VarHandle") {rm : Room} {as' : List Value} {Q' : Option Value → Heap → List Loc → Prop} (hM : own_M l Z y bytes maxL ret [] rm as'.toArray h Q' rm.cells rm.slots) (eT : T.heap = h) {W : Nat} (hf : rm.frames + 1 ≤ R.frames) (hl : W + (maxL + 11) + rm.locals ≤ R.locals) {ps : List FieldType} {r : Option FieldType} (pd : parseMethodDescriptor y.desc = some ⟨ps, r⟩) (hlen : as'.length = ps.length) {stk rest : List Value} (hstk : stk = as'.reverse ++ rest) (hd : decode c.code pc = .ok (.invokestatic index, 3)) (hW : (rest.map fun v => v.category).sum ≤ W) (hsize : Ls.size = c.maxLocals) (hc : cells + rm.cells ≤ R.cells) (hs : slots + rm.slots ≤ R.slots) (hp : pc + 3 = pc')
    (k : ∀ (v : Option Value) (T' : State) (L : List Loc), Stand p l e R s m args below meth c T' (locs ++ L) (cells + rm.cells) (slots + rm.slots) → Q' v T'.heap L → own_G p e below P (T'.setTop (mkF m pc' Ls (v.toList ++ rest)))) : own_G p e below P (T.setTop (mkF m pc Ls stk)) := by
  subst hp hstk
  obtain ⟨v, vm1, ⟨T', L', k', n'⟩, hWm, X', ⟨Lc, hQ', l', y', z'⟩, st'⟩ := Jvm.LawKit.callS X hx (y := y) hown (mvT hZ w1) (mvT hZ w2) (mvT hZ w3) (mvT hZ w4) hy (backOf (W := W) hM hZ w4 w3 hf hl) (g := mkF m pc Ls (as'.reverse ++ rest)) rfl hsize (argsL := as') (rest := rest) (lenOf pd hlen) rfl (by show 2 * 0 + _ ≤ _; omega) hd (fun _ _ => ⟨rfl, eT, hc, hs⟩)
  dsimp only [Pt.U, Pt.locs, Pt.cells, Pt.slots] at X' l' y' z' hQ'
  subst l' y' z'
  exact own_fw st' (k v T' Lc X' hQ')
theorem own_callC (X : Stand p l e R s m args below meth c T locs cells slots) (hx : p.tables.exec = Jvm.exec) (hZ : Z.Warmed39 s.vm) {own : String} {index : Nat} {y : MethodName} {bytes : ByteArray} {maxL : Nat} (hy1 : y.name = "<init>") (hown : s.vm.findClass own = some m.cls) (w1 : (Jvm.Cond.methodLink own index y).before a0 Z = true) (w2 : (Jvm.Cond.instanceMethod y).before a0 Z = true) (w3 : (Jvm.Cond.initialized y.cls).before a0 Z = true) (w4 : (Jvm.Cond.code y bytes maxL none).before a0 Z = true) (hy : y.cls ≠ "java/lang/invoke/MethodHandle" ∧ y.cls ≠ "java/lang/invoke/VarHandle") {a : Addr} {rm : Room} {as' : List Value} {Q' : Option Value → Heap → List Loc → Prop} (hM : own_M l Z y bytes maxL none [] rm (.ref a :: as').toArray h Q' rm.cells rm.slots) (eT : T.heap = h) {W : Nat} (hf : rm.frames + 1 ≤ R.frames) (hl : W + (maxL + 11) + rm.locals ≤ R.locals) {ps : List FieldType} {r : Option FieldType} (pd : parseMethodDescriptor y.desc = some ⟨ps, r⟩) (hlen : as'.length = ps.length) {stk rest : List Value} (hstk : stk = as'.reverse ++ .ref a :: rest) (hd : decode c.code pc = .ok (.invokespecial index, 3)) (hW : (rest.map fun v => v.category).sum ≤ W) (hsize : Ls.size = c.maxLocals) (hc : cells + rm.cells ≤ R.cells) (hs : slots + rm.slots ≤ R.slots) (hp : pc + 3 = pc')
    (k : ∀ (v : Option Value) (T' : State) (L : List Loc), Stand p l e R s m args below meth c T' (locs ++ L) (cells + rm.cells) (slots + rm.slots) → Q' v T'.heap L → own_G p e below P (T'.setTop (mkF m pc' Ls (v.toList ++ rest)))) : own_G p e below P (T.setTop (mkF m pc Ls stk)) := by
  subst hp hstk
  obtain ⟨v, vm1, ⟨T', L', k', n'⟩, hWm, X', ⟨Lc, hQ', l', y', z'⟩, st'⟩ := X.specialBack hx (y := y) hy1 hown (mvT hZ w1) (mvT hZ w2) (mvT hZ w4) hy (backOf (W := W) hM hZ w4 w3 hf hl) (g := mkF m pc Ls (as'.reverse ++ .ref a :: rest)) rfl hsize (Steps.refl _) (a := a) (argsL := as') (rest := rest) (lenOf pd hlen) rfl (by show 2 * 0 + _ ≤ _; omega) hd (fun _ _ => ⟨rfl, eT, hc, hs⟩)
  dsimp only [Pt.U, Pt.locs, Pt.cells, Pt.slots] at X' l' y' z' hQ'
  subst l' y' z'
  exact own_fw (fun t q => st'.trans q) (k v T' Lc X' hQ')
theorem own_callV (X : Stand p l e R s m args below meth c T locs cells slots) (hx : p.tables.exec = Jvm.exec) (hZ : Z.Warmed39 s.vm) {own C : String} {index : Nat} {y : MethodName} {bytes : ByteArray} {maxL : Nat} {ret : Option FieldType} (hown : s.vm.findClass own = some m.cls) (w1 : (Jvm.Cond.methodLink own index y).before a0 Z = true) (w2 : (Jvm.Cond.declares y).before a0 Z = true) (w3 : (Jvm.Cond.selects C y y).before a0 Z = true) (w4 : (Jvm.Cond.instanceMethod y).before a0 Z = true) (w5 : (Jvm.Cond.initialized y.cls).before a0 Z = true) (w6 : (Jvm.Cond.code y bytes maxL ret).before a0 Z = true) (hy : y.cls ≠ "java/lang/invoke/MethodHandle" ∧ y.cls ≠ "java/lang/invoke/VarHandle") {a : Addr} (E : Exa Z h a C) {rm : Room} {as' : List Value} {Q' : Option Value → Heap → List Loc → Prop} (hM : own_M l Z y bytes maxL ret [] rm (.ref a :: as').toArray h Q' rm.cells rm.slots) (eT : T.heap = h) {W : Nat} (hf : rm.frames + 1 ≤ R.frames) (hl : W + (maxL + 11) + rm.locals ≤ R.locals) {ps : List FieldType} {r : Option FieldType} (pd : parseMethodDescriptor y.desc = some ⟨ps, r⟩) (hlen : as'.length = ps.length) {stk rest : List Value} (hstk : stk = as'.reverse ++ .ref a :: rest) (hd : decode c.code pc = .ok (.invokevirtual index, 3)) (hW : (rest.map fun v => v.category).sum ≤ W) (hsize : Ls.size = c.maxLocals) (hc : cells + rm.cells ≤ R.cells) (hs : slots + rm.slots ≤ R.slots) (hp : pc + 3 = pc')
    (k : ∀ (v : Option Value) (T' : State) (L : List Loc), Stand p l e R s m args below meth c T' (locs ++ L) (cells + rm.cells) (slots + rm.slots) → Q' v T'.heap L → own_G p e below P (T'.setTop (mkF m pc' Ls (v.toList ++ rest)))) : own_G p e below P (T.setTop (mkF m pc Ls stk)) := by
  subst hp hstk
  obtain ⟨cq, kq, qa, qb, qc⟩ := isOf hZ eT E
  obtain ⟨v, vm1, ⟨T', L', k', n'⟩, hWm, X', ⟨Lc, hQ', l', y', z'⟩, st'⟩ := X.virtualBack hx (y := y) (z := y) hown (mvT hZ w1) (mvT hZ w2) (notFace_of_selects (args := #[]) (mvT hZ w3)) (mvT hZ w3) (mvT hZ w4) hy (backOf (W := W) hM hZ w6 w5 hf hl) qa qc (g := mkF m pc Ls (as'.reverse ++ .ref a :: rest)) rfl hsize (Steps.refl _) (argsL := as') (rest := rest) (lenOf pd hlen) rfl (by show 2 * 0 + _ ≤ _; omega) hd (fun _ _ => ⟨rfl, eT, hc, hs⟩)
  dsimp only [Pt.U, Pt.locs, Pt.cells, Pt.slots] at X' l' y' z' hQ'
  subst l' y' z'
  exact own_fw (fun t q => st'.trans q) (k v T' Lc X' hQ')
theorem own_getR (X : Stand p l e R s m args below meth c T locs cells slots) (hx : p.tables.exec = Jvm.exec) (hZ : Z.Warmed39 s.vm) {own O n d : String} {index : Nat} (hown : s.vm.findClass own = some m.cls) (w1 : (Jvm.Cond.fieldRef own index O n d).before a0 Z = true) (eT : T.heap = h) {a : Addr} {v : Value} (F : Fld Z h a O n d v) (hd : decode c.code pc = .ok (.getfield index, 3)) (hp : pc + 3 = pc') (k : own_G p e below P (T.setTop (mkF m pc' Ls (v :: st)))) : own_G p e below P (T.setTop (mkF m pc Ls (.ref a :: st))) := by
  subst hp
  obtain ⟨cell, cf, kf, i, f, h1, h2, h3, h4, -, -, h7⟩ := F
  have hT : Z.Warmed39 T.vm := wtrans hZ X.warmed
  have w2 := Cond.fieldRef_warmed39 hT w1
  have hcur : (Z.setVm T.vm).vm.findClass own = some m.cls := by
    show T.vm.findClass own = _
    rw [X.warmed.alike.findClass]; exact hown
  obtain ⟨c1, k1, i1, f1, g1, g2⟩ := Cond.fieldRef_spec hcur w2
  obtain ⟨k', hi, -⟩ := State.fieldFound?_setVm (s := Z) hT.alike h2
  cases hi.symm.trans g1
  exact own_fw (fun t q => (X.getfieldR hx (g := mkF m pc Ls (.ref a :: st)) rfl g2 h3 rfl (by rw [eT]; exact h1) h4 h7 hd (Steps.refl _)).trans q) k
theorem own_callP (X : Stand p l e R s m args below meth c T locs cells slots) (hx : p.tables.exec = Jvm.exec) (hZ : Z.Warmed39 s.vm) {own : String} {index nn : Nat} {y : MethodName} {bytes : ByteArray} {maxL : Nat} {ret : Option FieldType} (hown : s.vm.findClass own = some m.cls) (w1 : (Jvm.Cond.methodLink own index y).before a0 Z = true) (w2 : (Jvm.Cond.instanceMethod y).before a0 Z = true) (w3 : (Jvm.Cond.privateMethod y).before a0 Z = true) (wi : (Jvm.Cond.instantiable y.cls nn).before a0 Z = true) (w5 : (Jvm.Cond.initialized y.cls).before a0 Z = true) (w6 : (Jvm.Cond.code y bytes maxL ret).before a0 Z = true) (hy : y.cls ≠ "java/lang/invoke/MethodHandle" ∧ y.cls ≠ "java/lang/invoke/VarHandle") {a : Addr} {C : String} (E : Exa Z h a C) {rm : Room} {as' : List Value} {Q' : Option Value → Heap → List Loc → Prop} (hM : own_M l Z y bytes maxL ret [] rm (.ref a :: as').toArray h Q' rm.cells rm.slots) (eT : T.heap = h) {W : Nat} (hf : rm.frames + 1 ≤ R.frames) (hl : W + (maxL + 11) + rm.locals ≤ R.locals) {ps : List FieldType} {r : Option FieldType} (pd : parseMethodDescriptor y.desc = some ⟨ps, r⟩) (hlen : as'.length = ps.length) {stk rest : List Value} (hstk : stk = as'.reverse ++ .ref a :: rest) (hd : decode c.code pc = .ok (.invokevirtual index, 3)) (hW : (rest.map fun v => v.category).sum ≤ W) (hsize : Ls.size = c.maxLocals) (hc : cells + rm.cells ≤ R.cells) (hs : slots + rm.slots ≤ R.slots) (hp : pc + 3 = pc')
    (k : ∀ (v : Option Value) (T' : State) (L : List Loc), Stand p l e R s m args below meth c T' (locs ++ L) (cells + rm.cells) (slots + rm.slots) → Q' v T'.heap L → own_G p e below P (T'.setTop (mkF m pc' Ls (v.toList ++ rest)))) : own_G p e below P (T.setTop (mkF m pc Ls stk)) := by
  subst hp hstk
  have hpr : s.PrivateAt y := Cond.privateMethod_at (mvP hZ w3 (args := #[]))
  have hwi : (Jvm.Cond.instantiable y.cls nn).before args s = true := mvT hZ wi
  obtain ⟨ci, ki, j1, j2, -, j4, -⟩ := Cond.instantiable_spec hwi
  have hni : ki.isInterface = false := by
    cases hq : ki.isInterface
    · rfl
    · rw [hq] at j4; simp at j4
  have hsel := selects_self_of_private (args := args) j1 j2 hni hpr (mvT hZ w2) hy
  obtain ⟨cq, q1, q2⟩ := E.cell
  obtain ⟨v, vm1, ⟨T', L', k', n'⟩, hWm, X', ⟨Lc, hQ', l', y', z'⟩, st'⟩ := X.privateBack hx (y := y) hown (mvT hZ w1) (mvT hZ w2) hsel hpr (mvT hZ w6) hy (backOf (W := W) hM hZ w6 w5 hf hl) (g := mkF m pc Ls (as'.reverse ++ .ref a :: rest)) rfl hsize (Steps.refl _) (a := a) (cell := cq) (by rw [eT]; exact q1) q2 (argsL := as') (rest := rest) (lenOf pd hlen) rfl (by show 2 * 0 + _ ≤ _; omega) hd (fun _ _ => ⟨rfl, eT, hc, hs⟩)
  dsimp only [Pt.U, Pt.locs, Pt.cells, Pt.slots] at X' l' y' z' hQ'
  subst l' y' z'
  exact own_fw (fun t q => st'.trans q) (k v T' Lc X' hQ')
end OwnHead
section OwnArr
variable {p : Program} {l : Launch} {e : Env} {R : Room} {s : State} {m : MethodId} {args : Array Value} {below : List Frame} {meth : Method} {c : Code} {T : State} {locs : List Loc} {cells slots : Nat} {Z : State} {a0 : Array Value} {h : Heap} {Q : Option Value → Heap → List Loc → Prop} {P : State → Outcome → Prop} {ce sl : Nat} {pc pc' : Nat} {Ls : Array Slot} {st : List Value} {h' : Heap} {a b : Addr} {ty : FieldType} {z : Int32} {ws : List Addr} {v : Value} {sx : Nat}
def own_AI (Z : State) (h : Heap) (a : Addr) (ty : FieldType) (z : Int32) (g : Nat → Int32) : Prop := ∃ c : Cell, Arr Z h a c ty ∧ c.slots.size = z.toNatClampNeg ∧ ¬ z < 0 ∧ ∀ i, i < c.slots.size → c.slots[i]? = some (.int (g i))
theorem own_AI.lt {g : Nat → Int32} (F : own_AI Z h a ty z g) : a < h.size := by obtain ⟨c, A, -⟩ := F; exact A.lt
theorem own_AI.ext {g : Nat → Int32} (F : own_AI Z h a ty z g) (E : Ext h h') : own_AI Z h' a ty z g := by obtain ⟨c, A, r⟩ := F; exact ⟨c, A.ext E, r⟩
theorem own_AI.other {g : Nat → Int32} (F : own_AI Z h a ty z g) (W : Wr h h' b sx v) (q : a ≠ b) : own_AI Z h' a ty z g := by obtain ⟨c, A, r⟩ := F; exact ⟨c, A.other W q, r⟩
theorem own_AI.keep {g : Nat → Int32} (F : own_AI Z h a ty z g) (Kp : Keep h h' ws) (q : a ∉ ws) : own_AI Z h' a ty z g := by obtain ⟨c, A, r⟩ := F; exact ⟨c, ⟨Kp.2.1 a c A.1 q, A.2⟩, r⟩
theorem own_AI.same {g g' : Nat → Int32} (F : own_AI Z h a ty z g) (q : ∀ i, i < z.toNatClampNeg → g' i = g i) : own_AI Z h a ty z g' := by obtain ⟨c, A, r1, r2, r3⟩ := F; exact ⟨c, A, r1, r2, fun i hi => by rw [q i (r1 ▸ hi)]; exact r3 i hi⟩
theorem own_AI.set {g g' : Nat → Int32} (F : own_AI Z h a ty z g) {j : Int32} {x : Int32} (W : Wr h h' a j.toNatClampNeg (.int x)) (q : ∀ i, i < z.toNatClampNeg → g' i = if i = j.toNatClampNeg then x else g i) : own_AI Z h' a ty z g' := by
  obtain ⟨c, A, r1, r2, r3⟩ := F
  refine ⟨_, A.same W, (sz_set _ _ _).trans r1, r2, fun i hi => ?_⟩
  rw [sz_set] at hi
  rw [q i (r1 ▸ hi)]
  by_cases e : i = j.toNatClampNeg
  · subst e; rw [if_pos rfl]; simp [Cell.setSlot, hi]
  · rw [if_neg e]; exact (Array.getElem?_setIfInBounds_ne (Ne.symm e)).trans (r3 i hi)
def own_LI (l : List Int32) (i : Nat) : Int32 := l.getD i 0
theorem own_LI_set (l : List Int32) (k : Nat) (x : Int32) (hk : k < l.length) (i : Nat) : own_LI (l.set k x) i = if i = k then x else own_LI l i := by
  unfold own_LI
  by_cases e : i = k
  · subst e; simp [List.getD, hk]
  · rw [if_neg e]; simp [List.getD, List.getElem?_set_ne (Ne.symm e)]
theorem own_newAI (X : Stand p l e R s m args below meth c T locs cells slots) (hx : p.tables.exec = Jvm.exec) (hZ : Z.Warmed39 s.vm) {aty : ArrayType} {ty : FieldType} (hty : newarray.typeOf aty = ty) (w1 : (Jvm.Cond.arrayClass ty).before a0 Z = true) (eT : T.heap = h) {n : Int32} (hd : decode c.code pc = .ok (.newarray aty, 2)) (hp : pc + 2 = pc') (hn : ¬ n < 0) {cap : Nat} (hcap : n.toNatClampNeg ≤ cap) (hb : cap * 8 ≤ 536870912) (hc : cells + 1 ≤ R.cells) (hl : slots + cap ≤ R.slots) (hdv : defaultValue ty = .int 0)
    (k : ∀ (T' : State) (h' : Heap) (a : Addr), a = h.size → Stand p l e R s m args below meth c T' locs (cells + 1) (slots + cap) → T'.heap = h' → Ext h h' → own_AI Z h' a ty n (fun _ => 0) → own_G p e below P (T'.setTop (mkF m pc' Ls (.ref a :: st)))) : own_G p e below P (T.setTop (mkF m pc Ls (.int n :: st))) := by
  subst hp hty
  obtain ⟨T', h', cA, X', e', E', A', st'⟩ := newP X hx hZ w1 eT (g := mkF m pc Ls (.int n :: st)) rfl hd rfl hn hcap hb hc hl
  refine own_fw st' (k T' h' h.size rfl X' e' E' ⟨_, A', sz_new _ _ _, hn, fun i hi => ?_⟩)
  rw [sz_new] at hi
  rw [← hdv]
  simp [newA, hi]
theorem own_lenI (X : Stand p l e R s m args below meth c T locs cells slots) (hx : p.tables.exec = Jvm.exec) (hZ : Z.Warmed39 s.vm) (eT : T.heap = h) {ty : FieldType} {g : Nat → Int32} (A : own_AI Z h a ty z g) (hd : decode c.code pc = .ok (.arraylength, 1)) (hp : pc + 1 = pc') (k : own_G p e below P (T.setTop (mkF m pc' Ls (.int z :: st)))) : own_G p e below P (T.setTop (mkF m pc Ls (.ref a :: st))) := by
  subst hp
  obtain ⟨cl, A1, r1, r2, r3⟩ := A
  rw [← len_of r1 r2] at k
  exact own_fw (fun t q => X.arraylength hx (by rw [eT]; exact A1.1) (State.isArrayOf_alike hZ.alike A1.2.1) (g := mkF m pc Ls (.ref a :: st)) rfl rfl hd _ q) k
def own_AJ (Z : State) (h : Heap) (a : Addr) (ty : FieldType) (z : Int32) (g : Nat → Int64) : Prop := ∃ c : Cell, Arr Z h a c ty ∧ c.slots.size = z.toNatClampNeg ∧ ¬ z < 0 ∧ ∀ i, i < c.slots.size → c.slots[i]? = some (.long (g i))
theorem own_AJ.lt {g : Nat → Int64} (F : own_AJ Z h a ty z g) : a < h.size := by obtain ⟨c, A, -⟩ := F; exact A.lt
theorem own_AJ.ext {g : Nat → Int64} (F : own_AJ Z h a ty z g) (E : Ext h h') : own_AJ Z h' a ty z g := by obtain ⟨c, A, r⟩ := F; exact ⟨c, A.ext E, r⟩
theorem own_AJ.other {g : Nat → Int64} (F : own_AJ Z h a ty z g) (W : Wr h h' b sx v) (q : a ≠ b) : own_AJ Z h' a ty z g := by obtain ⟨c, A, r⟩ := F; exact ⟨c, A.other W q, r⟩
theorem own_AJ.keep {g : Nat → Int64} (F : own_AJ Z h a ty z g) (Kp : Keep h h' ws) (q : a ∉ ws) : own_AJ Z h' a ty z g := by obtain ⟨c, A, r⟩ := F; exact ⟨c, ⟨Kp.2.1 a c A.1 q, A.2⟩, r⟩
theorem own_AJ.same {g g' : Nat → Int64} (F : own_AJ Z h a ty z g) (q : ∀ i, i < z.toNatClampNeg → g' i = g i) : own_AJ Z h a ty z g' := by obtain ⟨c, A, r1, r2, r3⟩ := F; exact ⟨c, A, r1, r2, fun i hi => by rw [q i (r1 ▸ hi)]; exact r3 i hi⟩
theorem own_AJ.set {g g' : Nat → Int64} (F : own_AJ Z h a ty z g) {j : Int32} {x : Int64} (W : Wr h h' a j.toNatClampNeg (.long x)) (q : ∀ i, i < z.toNatClampNeg → g' i = if i = j.toNatClampNeg then x else g i) : own_AJ Z h' a ty z g' := by
  obtain ⟨c, A, r1, r2, r3⟩ := F
  refine ⟨_, A.same W, (sz_set _ _ _).trans r1, r2, fun i hi => ?_⟩
  rw [sz_set] at hi
  rw [q i (r1 ▸ hi)]
  by_cases e : i = j.toNatClampNeg
  · subst e; rw [if_pos rfl]; simp [Cell.setSlot, hi]
  · rw [if_neg e]; exact (Array.getElem?_setIfInBounds_ne (Ne.symm e)).trans (r3 i hi)
def own_LJ (l : List Int64) (i : Nat) : Int64 := l.getD i 0
theorem own_LJ_set (l : List Int64) (k : Nat) (x : Int64) (hk : k < l.length) (i : Nat) : own_LJ (l.set k x) i = if i = k then x else own_LJ l i := by
  unfold own_LJ
  by_cases e : i = k
  · subst e; simp [List.getD, hk]
  · rw [if_neg e]; simp [List.getD, List.getElem?_set_ne (Ne.symm e)]
theorem own_newAJ (X : Stand p l e R s m args below meth c T locs cells slots) (hx : p.tables.exec = Jvm.exec) (hZ : Z.Warmed39 s.vm) {aty : ArrayType} {ty : FieldType} (hty : newarray.typeOf aty = ty) (w1 : (Jvm.Cond.arrayClass ty).before a0 Z = true) (eT : T.heap = h) {n : Int32} (hd : decode c.code pc = .ok (.newarray aty, 2)) (hp : pc + 2 = pc') (hn : ¬ n < 0) {cap : Nat} (hcap : n.toNatClampNeg ≤ cap) (hb : cap * 8 ≤ 536870912) (hc : cells + 1 ≤ R.cells) (hl : slots + cap ≤ R.slots) (hdv : defaultValue ty = .long 0)
    (k : ∀ (T' : State) (h' : Heap) (a : Addr), a = h.size → Stand p l e R s m args below meth c T' locs (cells + 1) (slots + cap) → T'.heap = h' → Ext h h' → own_AJ Z h' a ty n (fun _ => 0) → own_G p e below P (T'.setTop (mkF m pc' Ls (.ref a :: st)))) : own_G p e below P (T.setTop (mkF m pc Ls (.int n :: st))) := by
  subst hp hty
  obtain ⟨T', h', cA, X', e', E', A', st'⟩ := newP X hx hZ w1 eT (g := mkF m pc Ls (.int n :: st)) rfl hd rfl hn hcap hb hc hl
  refine own_fw st' (k T' h' h.size rfl X' e' E' ⟨_, A', sz_new _ _ _, hn, fun i hi => ?_⟩)
  rw [sz_new] at hi
  rw [← hdv]
  simp [newA, hi]
theorem own_lenJ (X : Stand p l e R s m args below meth c T locs cells slots) (hx : p.tables.exec = Jvm.exec) (hZ : Z.Warmed39 s.vm) (eT : T.heap = h) {ty : FieldType} {g : Nat → Int64} (A : own_AJ Z h a ty z g) (hd : decode c.code pc = .ok (.arraylength, 1)) (hp : pc + 1 = pc') (k : own_G p e below P (T.setTop (mkF m pc' Ls (.int z :: st)))) : own_G p e below P (T.setTop (mkF m pc Ls (.ref a :: st))) := by
  subst hp
  obtain ⟨cl, A1, r1, r2, r3⟩ := A
  rw [← len_of r1 r2] at k
  exact own_fw (fun t q => X.arraylength hx (by rw [eT]; exact A1.1) (State.isArrayOf_alike hZ.alike A1.2.1) (g := mkF m pc Ls (.ref a :: st)) rfl rfl hd _ q) k
theorem own_baload (X : Stand p l e R s m args below meth c T locs cells slots) (hx : p.tables.exec = Jvm.exec) (hZ : Z.Warmed39 s.vm) (eT : T.heap = h) {g : Nat → Int32} (A : own_AI Z h a .byte z g) {j : Int32} {x : Int32} (hj : ¬ j < 0 ∧ j < z) (hv : g j.toNatClampNeg = x) (hd : decode c.code pc = .ok (.baload, 1)) (hp : pc + 1 = pc') (k : own_G p e below P (T.setTop (mkF m pc' Ls (.int x :: st)))) : own_G p e below P (T.setTop (mkF m pc Ls (.int j :: .ref a :: st))) := by
  subst hp hv
  obtain ⟨cl, A1, r1, r2, r3⟩ := A
  have hin := inb_of r1 hj
  exact own_fw (fun t q => X.baloadBytes hx (j := j) (by rw [eT]; exact A1.1) (State.isArrayOf_alike hZ.alike A1.2.1) A1.2.2 hin (r3 _ (Nat.lt_of_not_le fun q => hin (Or.inr q))) (g := mkF m pc Ls (.int j :: .ref a :: st)) rfl rfl hd _ q) k
theorem own_iaload (X : Stand p l e R s m args below meth c T locs cells slots) (hx : p.tables.exec = Jvm.exec) (hZ : Z.Warmed39 s.vm) (eT : T.heap = h) {g : Nat → Int32} (A : own_AI Z h a .int z g) {j : Int32} {x : Int32} (hj : ¬ j < 0 ∧ j < z) (hv : g j.toNatClampNeg = x) (hd : decode c.code pc = .ok (.iaload, 1)) (hp : pc + 1 = pc') (k : own_G p e below P (T.setTop (mkF m pc' Ls (.int x :: st)))) : own_G p e below P (T.setTop (mkF m pc Ls (.int j :: .ref a :: st))) := by
  subst hp hv
  obtain ⟨cl, A1, r1, r2, r3⟩ := A
  have hin := inb_of r1 hj
  exact own_fw (fun t q => X.iaload hx (j := j) (by rw [eT]; exact A1.1) (State.isArrayOf_alike hZ.alike A1.2.1) A1.2.2 hin (r3 _ (Nat.lt_of_not_le fun q => hin (Or.inr q))) (g := mkF m pc Ls (.int j :: .ref a :: st)) rfl rfl hd _ q) k
theorem own_laload (X : Stand p l e R s m args below meth c T locs cells slots) (hx : p.tables.exec = Jvm.exec) (hZ : Z.Warmed39 s.vm) (eT : T.heap = h) {g : Nat → Int64} (A : own_AJ Z h a .long z g) {j : Int32} {x : Int64} (hj : ¬ j < 0 ∧ j < z) (hv : g j.toNatClampNeg = x) (hd : decode c.code pc = .ok (.laload, 1)) (hp : pc + 1 = pc') (k : own_G p e below P (T.setTop (mkF m pc' Ls (.long x :: st)))) : own_G p e below P (T.setTop (mkF m pc Ls (.int j :: .ref a :: st))) := by
  subst hp hv
  obtain ⟨cl, A1, r1, r2, r3⟩ := A
  have hin := inb_of r1 hj
  exact own_fw (fun t q => X.laload hx (j := j) (by rw [eT]; exact A1.1) (State.isArrayOf_alike hZ.alike A1.2.1) A1.2.2 hin (r3 _ (Nat.lt_of_not_le fun q => hin (Or.inr q))) (g := mkF m pc Ls (.int j :: .ref a :: st)) rfl rfl hd _ q) k
theorem own_bastore (X : Stand p l e R s m args below meth c T locs cells slots) (hx : p.tables.exec = Jvm.exec) (hZ : Z.Warmed39 s.vm) (eT : T.heap = h) {g g' : Nat → Int32} (A : own_AI Z h a .byte z g) {j : Int32} {x x' : Int32} (hj : ¬ j < 0 ∧ j < z) (hx' : (nar .byte x) = x') (hg : ∀ i, i < z.toNatClampNeg → g' i = if i = j.toNatClampNeg then x' else g i) (hd : decode c.code pc = .ok (.bastore, 1)) (hp : pc + 1 = pc') (k : ∀ (T' : State) (h' : Heap), Stand p l e R s m args below meth c T' (locs ++ [⟨a, j.toNatClampNeg⟩]) cells slots → T'.heap = h' → Wr h h' a j.toNatClampNeg (.int x') → own_AI Z h' a .byte z g' → own_G p e below P (T'.setTop (mkF m pc' Ls st))) : own_G p e below P (T.setTop (mkF m pc Ls (.int x :: .int j :: .ref a :: st))) := by
  subst hp hx'
  have A0 := A
  obtain ⟨cl, A1, r1, r2, r3⟩ := A
  obtain ⟨T', h', X', e', W', st'⟩ := stB X hx hZ eT A1 (inb_of r1 hj) (g := mkF m pc Ls (.int x :: .int j :: .ref a :: st)) rfl rfl hd
  exact own_fw st' (k T' h' X' e' W' (A0.set W' hg))
theorem own_iastore (X : Stand p l e R s m args below meth c T locs cells slots) (hx : p.tables.exec = Jvm.exec) (hZ : Z.Warmed39 s.vm) (eT : T.heap = h) {g g' : Nat → Int32} (A : own_AI Z h a .int z g) {j : Int32} {x x' : Int32} (hj : ¬ j < 0 ∧ j < z) (hx' : x = x') (hg : ∀ i, i < z.toNatClampNeg → g' i = if i = j.toNatClampNeg then x' else g i) (hd : decode c.code pc = .ok (.iastore, 1)) (hp : pc + 1 = pc') (k : ∀ (T' : State) (h' : Heap), Stand p l e R s m args below meth c T' (locs ++ [⟨a, j.toNatClampNeg⟩]) cells slots → T'.heap = h' → Wr h h' a j.toNatClampNeg (.int x') → own_AI Z h' a .int z g' → own_G p e below P (T'.setTop (mkF m pc' Ls st))) : own_G p e below P (T.setTop (mkF m pc Ls (.int x :: .int j :: .ref a :: st))) := by
  subst hp hx'
  have A0 := A
  obtain ⟨cl, A1, r1, r2, r3⟩ := A
  obtain ⟨T', h', X', e', W', st'⟩ := stI X hx hZ eT A1 (inb_of r1 hj) (g := mkF m pc Ls (.int x :: .int j :: .ref a :: st)) rfl rfl hd
  exact own_fw st' (k T' h' X' e' W' (A0.set W' hg))
theorem own_lastore (X : Stand p l e R s m args below meth c T locs cells slots) (hx : p.tables.exec = Jvm.exec) (hZ : Z.Warmed39 s.vm) (eT : T.heap = h) {g g' : Nat → Int64} (A : own_AJ Z h a .long z g) {j : Int32} {x x' : Int64} (hj : ¬ j < 0 ∧ j < z) (hx' : x = x') (hg : ∀ i, i < z.toNatClampNeg → g' i = if i = j.toNatClampNeg then x' else g i) (hd : decode c.code pc = .ok (.lastore, 1)) (hp : pc + 1 = pc') (k : ∀ (T' : State) (h' : Heap), Stand p l e R s m args below meth c T' (locs ++ [⟨a, j.toNatClampNeg⟩]) cells slots → T'.heap = h' → Wr h h' a j.toNatClampNeg (.long x') → own_AJ Z h' a .long z g' → own_G p e below P (T'.setTop (mkF m pc' Ls st))) : own_G p e below P (T.setTop (mkF m pc Ls (.long x :: .int j :: .ref a :: st))) := by
  subst hp hx'
  have A0 := A
  obtain ⟨cl, A1, r1, r2, r3⟩ := A
  obtain ⟨T', h', X', e', W', st'⟩ := stJ X hx hZ eT A1 (inb_of r1 hj) (g := mkF m pc Ls (.long x :: .int j :: .ref a :: st)) rfl rfl hd
  exact own_fw st' (k T' h' X' e' W' (A0.set W' hg))
theorem own_nar (y : Int32) : nar .byte y.toInt8.toInt32 = y.toInt8.toInt32 := by
  show y.toInt8.toInt32.toInt8.toInt32 = _
  rw [Int8.toInt8_toInt32]
end OwnArr
def own_nl (gb : Nat → Int32) (i p : Int32) : Int32 := if i < p then (if (gb i.toNatClampNeg) = (10 : Int32) then (1 : Int32) else (0 : Int32)) else (0 : Int32)
def own_cnt (b : Nat → Int32) : Nat → Nat
  | 0 => 0
  | n + 1 => own_cnt b n + (if b n = (10 : Int32) then 1 else 0)
def own_inv (b : Nat → Int32) (i : Nat) (g : Nat → Int32) (L : Int32) : Prop := L.toInt = 1 + (own_cnt b i : Int) ∧ ∀ k : Nat, (k : Int) < L.toInt → ∀ q : Nat, q ≤ i → ((g k).toInt ≤ (q : Int) ↔ k ≤ own_cnt b q)
theorem own_cmono (b : Nat → Int32) (n m : Nat) (h : n ≤ m) : own_cnt b n ≤ own_cnt b m := by
  induction m with
  | zero => have : n = 0 := by omega
            subst this; exact Nat.le_refl _
  | succ m ih =>
    by_cases e : n = m + 1
    · subst e; exact Nat.le_refl _
    · have := ih (by omega)
      show own_cnt b n ≤ own_cnt b m + _
      omega
theorem own_cle (b : Nat → Int32) (n : Nat) : own_cnt b n ≤ n := by
  induction n with
  | zero => exact Nat.le_refl _
  | succ n ih =>
    show own_cnt b n + _ ≤ n + 1
    split <;> omega
theorem own_inv0 (b : Nat → Int32) : own_inv b 0 (fun _ => 0) (1 : Int32) := by
  refine ⟨rfl, fun k hk q hq => ?_⟩
  have h1 : (1 : Int32).toInt = 1 := rfl
  have hk0 : k = 0 := by omega
  have hq0 : q = 0 := by omega
  subst hk0 hq0
  exact ⟨fun _ => Nat.le_refl _, fun _ => by decide⟩
theorem own_invno {b g : Nat → Int32} {n : Nat} {L : Int32} (I : own_inv b n g L) (hb : b n = (97 : Int32)) : own_inv b (n + 1) g L := by
  have hc : own_cnt b (n + 1) = own_cnt b n := by
    show own_cnt b n + _ = _
    rw [if_neg (by rw [hb]; decide)]; omega
  refine ⟨by rw [hc]; exact I.1, fun k hk q hq => ?_⟩
  by_cases e : q = n + 1
  · subst e
    have h1 := (I.2 k hk n (Nat.le_refl _))
    have h2 : k ≤ own_cnt b n := by have := I.1; omega
    have h3 := h1.mpr h2
    rw [hc]
    exact ⟨fun _ => h2, fun _ => by omega⟩
  · exact I.2 k hk q (by omega)
theorem own_tn (L : Int32) (h : 0 ≤ L.toInt) : (L.toNatClampNeg : Int) = L.toInt := by
  show ((L.toInt.toNat : Nat) : Int) = L.toInt
  omega
theorem own_invnl {b g : Nat → Int32} {n : Nat} {L x : Int32} (I : own_inv b n g L) (hb : b n = (10 : Int32)) (hn : n < 6) (hx : x.toInt = n + 1) : own_inv b (n + 1) (fun i => if i = L.toNatClampNeg then x else g i) (L + (1 : Int32)) := by
  have hc : own_cnt b (n + 1) = own_cnt b n + 1 := by
    show own_cnt b n + _ = _
    rw [if_pos hb]
  have hle := own_cle b n
  have h1 := c_iadd L 1
  have h2 := rng32 (L + 1)
  have h3 := I.1
  simp only [Int32.reduceToInt] at h1
  have hL : (L + 1).toInt = L.toInt + 1 := by omega
  have ht := own_tn L (by omega)
  refine ⟨by rw [hc, hL, h3]; omega, fun k hk q hq => ?_⟩
  show ((if k = L.toNatClampNeg then x else g k).toInt ≤ (q : Int) ↔ k ≤ own_cnt b q)
  by_cases ek : k = L.toNatClampNeg
  · rw [if_pos ek, hx]
    have hkc : (k : Int) = 1 + own_cnt b n := by rw [ek, ht]; exact h3
    by_cases e : q = n + 1
    · subst e; rw [hc]; constructor <;> intro _ <;> omega
    · have := own_cmono b q n (by omega)
      constructor <;> intro _ <;> omega
  · rw [if_neg ek]
    have hk2 : (k : Int) < L.toInt := by omega
    by_cases e : q = n + 1
    · subst e
      have h4 := (I.2 k hk2 n (Nat.le_refl _)).mpr (by omega)
      rw [hc]; constructor <;> intro _ <;> omega
    · exact I.2 k hk2 q (by omega)
theorem own_invL {b g : Nat → Int32} {n : Nat} {L : Int32} (I : own_inv b n g L) (hn : n ≤ 6) : 1 ≤ L.toInt ∧ L.toInt ≤ 7 := by
  have := I.1; have := own_cle b n; omega
theorem own_ne64 {L : Int32} (h : 0 ≤ L.toInt ∧ L.toInt < 64) : ¬ L = (64 : Int32) := by
  simp only [← Int32.toInt_inj, Int32.reduceToInt]; omega
theorem own_ib64 {L : Int32} (h : 0 ≤ L.toInt ∧ L.toInt < 64) : ¬ L < 0 ∧ L < (64 : Int32) := by
  simp only [Int32.lt_iff_toInt_lt, Int32.reduceToInt]; omega
theorem od_method_3_0 : decode method_3_code 0 = .ok (.iload_n 0, 1) := by decide +kernel
theorem od_method_3_1 : decode method_3_code 1 = .ok (.iload_n 1, 1) := by decide +kernel
theorem od_method_3_2 : decode method_3_code 2 = .ok (.iushr, 1) := by decide +kernel
theorem od_method_3_3 : decode method_3_code 3 = .ok (.iconst 1, 1) := by decide +kernel
theorem od_method_3_4 : decode method_3_code 4 = .ok (.iand, 1) := by decide +kernel
theorem od_method_3_5 : decode method_3_code 5 = .ok (.ifCond .eq 8, 3) := by decide +kernel
theorem od_method_3_13 : decode method_3_code 13 = .ok (.bipush 97, 2) := by decide +kernel
theorem od_method_3_8 : decode method_3_code 8 = .ok (.bipush 10, 2) := by decide +kernel
theorem od_method_3_10 : decode method_3_code 10 = .ok (.goto 5, 3) := by decide +kernel
theorem od_method_3_15 : decode method_3_code 15 = .ok (.ireturn, 1) := by decide +kernel
theorem opn_com_example_structlane_structlane_header_SourceTextLineOfPinLaw : plainName "com/example/structlane/structlane/header/SourceTextLineOfPinLaw" = true := by first | (simp [plainName, overriddenIn]; done) | decide +kernel
theorem oef_rm_pick (m : MethodId) (u0 : Int32) (u1 : Int32) : entryFrame m #[(.int u0), (.int u1)] 2 = mkF m 0 #[.val (.int u0), .val (.int u1)] [] := by first | (simp [entryFrame, mkF, argsToLocals, Value.category]; done) | rfl
set_option maxRecDepth 65536 in
set_option maxHeartbeats 40000000 in
theorem rm_pick (l : Launch) (Z : State) (a0 : Array Value) (hw : ∀ d ∈ tables_1, d.before a0 Z = true) (u0 : Int32) (u1 : Int32) (h0 : Heap) (n0 : Nat) (Z0 : n0 ≤ h0.size)  :
    own_M l Z (⟨"com/example/structlane/structlane/header/SourceTextLineOfPinLaw", "pick", "(II)B"⟩ : MethodName) method_3_code 2 (some .byte) [] ({ frames := 0, cells := 0, slots := 0, locals := 0 } : Room) #[(.int u0), (.int u1)] h0 (fun v h L => v = some (.int (if (((u0.toUInt32 >>> (u1 &&& 31).toUInt32).toInt32) &&& (1 : Int32)) = (0 : Int32) then (97 : Int32) else (10 : Int32))) ∧ Fr n0 L ∧ (h = h0)) 0 0 := by
  refine own_body (plainFor_of_name opn_com_example_structlane_structlane_header_SourceTextLineOfPinLaw) ?_
  intro p e s m below meth c s1 hx hby hml hown hnm hret hlk hZ X0 e0
  rw [oef_rm_pick m u0 u1]
  have N0 := Fr.nil n0
  refine own_iloadN X0 hx (hb hby od_method_3_0) rfl (pc' := 1) rfl ?_
  refine own_iloadN X0 hx (hb hby od_method_3_1) rfl (pc' := 2) rfl ?_
  refine own_iushr X0 hx (hb hby od_method_3_2) (pc' := 3) rfl ?_
  refine own_iconst X0 hx (hb hby od_method_3_3) (z := (1 : Int32)) rfl (pc' := 4) rfl ?_
  refine own_iand X0 hx (hb hby od_method_3_4) (pc' := 5) rfl ?_
  refine own_via (S' := s1.setTop (mkF m 15 #[.val (.int u0), .val (.int u1)] [(.int (if (((u0.toUInt32 >>> (u1 &&& 31).toUInt32).toInt32) &&& (1 : Int32)) = (0 : Int32) then (97 : Int32) else (10 : Int32)))])) (fun kk => ?_) ?_
  · by_cases c1 : (((u0.toUInt32 >>> (u1 &&& 31).toUInt32).toInt32) &&& (1 : Int32)) = (0 : Int32)
    · refine own_ifT X0 hx (hb hby od_method_3_5) (teq c1).1 (by decide) (pc' := 13) rfl ?_
      refine own_bipush X0 hx (hb hby od_method_3_13) (z := (97 : Int32)) (by decide) (pc' := 15) rfl ?_
      exact own_cast (by simp only [if_pos c1]) kk
    · refine own_ifF X0 hx (hb hby od_method_3_5) (feq c1).1 (pc' := 8) rfl ?_
      refine own_bipush X0 hx (hb hby od_method_3_8) (z := (10 : Int32)) (by decide) (pc' := 10) rfl ?_
      refine own_goto X0 hx (hb hby od_method_3_10) (by decide) (pc' := 15) rfl ?_
      exact own_cast (by simp only [if_neg c1]) kk
  exact own_retB X0 hx hret hlk (by split <;> rfl) (hb hby od_method_3_15) ⟨rfl, N0, e0⟩ (by decide) (by decide)
theorem od_method_4_0 : decode method_4_code 0 = .ok (.iload_n 1, 1) := by decide +kernel
theorem od_method_4_1 : decode method_4_code 1 = .ok (.iload_n 2, 1) := by decide +kernel
theorem od_method_4_2 : decode method_4_code 2 = .ok (.if_icmp .ge 15, 3) := by decide +kernel
theorem od_method_4_5 : decode method_4_code 5 = .ok (.aload_n 0, 1) := by decide +kernel
theorem od_method_4_6 : decode method_4_code 6 = .ok (.iload_n 1, 1) := by decide +kernel
theorem od_method_4_7 : decode method_4_code 7 = .ok (.baload, 1) := by decide +kernel
theorem od_method_4_8 : decode method_4_code 8 = .ok (.bipush 10, 2) := by decide +kernel
theorem od_method_4_10 : decode method_4_code 10 = .ok (.if_icmp .ne 7, 3) := by decide +kernel
theorem od_method_4_13 : decode method_4_code 13 = .ok (.iconst 1, 1) := by decide +kernel
theorem od_method_4_14 : decode method_4_code 14 = .ok (.goto 4, 3) := by decide +kernel
theorem od_method_4_17 : decode method_4_code 17 = .ok (.iconst 0, 1) := by decide +kernel
theorem od_method_4_18 : decode method_4_code 18 = .ok (.ireturn, 1) := by decide +kernel
theorem oef_rm_nl (m : MethodId) (rb : Addr) (u0 : Int32) (u1 : Int32) : entryFrame m #[(.ref rb), (.int u0), (.int u1)] 3 = mkF m 0 #[.val (.ref rb), .val (.int u0), .val (.int u1)] [] := by first | (simp [entryFrame, mkF, argsToLocals, Value.category]; done) | rfl
set_option maxRecDepth 65536 in
set_option maxHeartbeats 40000000 in
theorem rm_nl (l : Launch) (Z : State) (a0 : Array Value) (hw : ∀ d ∈ tables_1, d.before a0 Z = true) (rb : Addr) (u0 : Int32) (u1 : Int32) (gb : Nat → Int32) (h0 : Heap) (n0 : Nat) (Z0 : n0 ≤ h0.size) (P0 : own_AI Z h0 rb .byte (6 : Int32) gb) (hI : ¬ (u0 < 0) ∧ u0 < (6 : Int32)) :
    own_M l Z (⟨"com/example/structlane/structlane/header/SourceTextLineOfPinLaw", "nl", "([BII)I"⟩ : MethodName) method_4_code 3 (some .int) [] ({ frames := 0, cells := 0, slots := 0, locals := 0 } : Room) #[(.ref rb), (.int u0), (.int u1)] h0 (fun v h L => v = some (.int (own_nl gb u0 u1)) ∧ Fr n0 L ∧ (h = h0)) 0 0 := by
  refine own_body (plainFor_of_name opn_com_example_structlane_structlane_header_SourceTextLineOfPinLaw) ?_
  intro p e s m below meth c s1 hx hby hml hown hnm hret hlk hZ X0 e0
  rw [oef_rm_nl m rb u0 u1]
  have N0 := Fr.nil n0
  refine own_iloadN X0 hx (hb hby od_method_4_0) rfl (pc' := 1) rfl ?_
  refine own_iloadN X0 hx (hb hby od_method_4_1) rfl (pc' := 2) rfl ?_
  refine own_via (S' := s1.setTop (mkF m 18 #[.val (.ref rb), .val (.int u0), .val (.int u1)] [(.int (if u0 < u1 then (if (gb u0.toNatClampNeg) = (10 : Int32) then (1 : Int32) else (0 : Int32)) else (0 : Int32)))])) (fun kk => ?_) ?_
  · by_cases c1 : u0 < u1
    · refine own_icmpF X0 hx (hb hby od_method_4_2) (tlt c1).2.1 (pc' := 5) rfl ?_
      refine own_aloadN X0 hx (hb hby od_method_4_5) rfl rfl (pc' := 6) rfl ?_
      refine own_iloadN X0 hx (hb hby od_method_4_6) rfl (pc' := 7) rfl ?_
      refine own_baload X0 hx hZ e0 P0 (x := (gb u0.toNatClampNeg)) hI rfl (hb hby od_method_4_7) (pc' := 8) rfl ?_
      refine own_bipush X0 hx (hb hby od_method_4_8) (z := (10 : Int32)) (by decide) (pc' := 10) rfl ?_
      by_cases c2 : (gb u0.toNatClampNeg) = (10 : Int32)
      · refine own_icmpF X0 hx (hb hby od_method_4_10) (teq c2).2 (pc' := 13) rfl ?_
        refine own_iconst X0 hx (hb hby od_method_4_13) (z := (1 : Int32)) rfl (pc' := 14) rfl ?_
        refine own_goto X0 hx (hb hby od_method_4_14) (by decide) (pc' := 18) rfl ?_
        exact own_cast (by simp only [if_pos c1, if_pos c2]) kk
      · refine own_icmpT X0 hx (hb hby od_method_4_10) (feq c2).2 (by decide) (pc' := 17) rfl ?_
        refine own_iconst X0 hx (hb hby od_method_4_17) (z := (0 : Int32)) rfl (pc' := 18) rfl ?_
        exact own_cast (by simp only [if_pos c1, if_neg c2]) kk
    · refine own_icmpT X0 hx (hb hby od_method_4_2) (flt c1).2.1 (by decide) (pc' := 17) rfl ?_
      refine own_iconst X0 hx (hb hby od_method_4_17) (z := (0 : Int32)) rfl (pc' := 18) rfl ?_
      exact own_cast (by simp only [if_neg c1]) kk
  exact own_retI X0 hx hret hlk (hb hby od_method_4_18) ⟨rfl, N0, e0⟩ (by decide) (by decide)
theorem od_method_5_0 : decode method_5_code 0 = .ok (.iconst 1, 1) := by decide +kernel
theorem od_method_5_1 : decode method_5_code 1 = .ok (.aload_n 0, 1) := by decide +kernel
theorem od_method_5_2 : decode method_5_code 2 = .ok (.iconst 0, 1) := by decide +kernel
theorem od_method_5_3 : decode method_5_code 3 = .ok (.iload_n 1, 1) := by decide +kernel
theorem od_method_5_4 : decode method_5_code 4 = .ok (.invokestatic 27, 3) := by decide +kernel
theorem ow_61 {Z : State} {a0 : Array Value} (hw : ∀ d ∈ tables_1, d.before a0 Z = true) : (Jvm.Cond.methodLink "com/example/structlane/structlane/header/SourceTextLineOfPinLaw" (27 : Nat) ({ cls := "com/example/structlane/structlane/header/SourceTextLineOfPinLaw", name := "nl", desc := "([BII)I" } : Jvm.MethodName)).before a0 Z = true := hw _ (List.mem_of_getElem? (i := 61) rfl)
theorem opd___BII_I : parseMethodDescriptor "([BII)I" = some ⟨[(.array .byte), .int, .int], some .int⟩ := by decide +kernel
theorem ow_62 {Z : State} {a0 : Array Value} (hw : ∀ d ∈ tables_1, d.before a0 Z = true) : (Jvm.Cond.static ({ cls := "com/example/structlane/structlane/header/SourceTextLineOfPinLaw", name := "nl", desc := "([BII)I" } : Jvm.MethodName)).before a0 Z = true := hw _ (List.mem_of_getElem? (i := 62) rfl)
theorem ow_3 {Z : State} {a0 : Array Value} (hw : ∀ d ∈ tables_1, d.before a0 Z = true) : (Jvm.Cond.initialized "com/example/structlane/structlane/header/SourceTextLineOfPinLaw").before a0 Z = true := hw _ (List.mem_of_getElem? (i := 3) rfl)
theorem ow_63 {Z : State} {a0 : Array Value} (hw : ∀ d ∈ tables_1, d.before a0 Z = true) : (Jvm.Cond.code ({ cls := "com/example/structlane/structlane/header/SourceTextLineOfPinLaw", name := "nl", desc := "([BII)I" } : Jvm.MethodName) method_4_code (3 : Nat) (Option.some Jvm.ClassFile.FieldType.int)).before a0 Z = true := hw _ (List.mem_of_getElem? (i := 63) rfl)
theorem od_method_5_7 : decode method_5_code 7 = .ok (.iadd, 1) := by decide +kernel
theorem od_method_5_8 : decode method_5_code 8 = .ok (.aload_n 0, 1) := by decide +kernel
theorem od_method_5_9 : decode method_5_code 9 = .ok (.iconst 1, 1) := by decide +kernel
theorem od_method_5_10 : decode method_5_code 10 = .ok (.iload_n 1, 1) := by decide +kernel
theorem od_method_5_11 : decode method_5_code 11 = .ok (.invokestatic 27, 3) := by decide +kernel
theorem od_method_5_14 : decode method_5_code 14 = .ok (.iadd, 1) := by decide +kernel
theorem od_method_5_15 : decode method_5_code 15 = .ok (.aload_n 0, 1) := by decide +kernel
theorem od_method_5_16 : decode method_5_code 16 = .ok (.iconst 2, 1) := by decide +kernel
theorem od_method_5_17 : decode method_5_code 17 = .ok (.iload_n 1, 1) := by decide +kernel
theorem od_method_5_18 : decode method_5_code 18 = .ok (.invokestatic 27, 3) := by decide +kernel
theorem od_method_5_21 : decode method_5_code 21 = .ok (.iadd, 1) := by decide +kernel
theorem od_method_5_22 : decode method_5_code 22 = .ok (.aload_n 0, 1) := by decide +kernel
theorem od_method_5_23 : decode method_5_code 23 = .ok (.iconst 3, 1) := by decide +kernel
theorem od_method_5_24 : decode method_5_code 24 = .ok (.iload_n 1, 1) := by decide +kernel
theorem od_method_5_25 : decode method_5_code 25 = .ok (.invokestatic 27, 3) := by decide +kernel
theorem od_method_5_28 : decode method_5_code 28 = .ok (.iadd, 1) := by decide +kernel
theorem od_method_5_29 : decode method_5_code 29 = .ok (.aload_n 0, 1) := by decide +kernel
theorem od_method_5_30 : decode method_5_code 30 = .ok (.iconst 4, 1) := by decide +kernel
theorem od_method_5_31 : decode method_5_code 31 = .ok (.iload_n 1, 1) := by decide +kernel
theorem od_method_5_32 : decode method_5_code 32 = .ok (.invokestatic 27, 3) := by decide +kernel
theorem od_method_5_35 : decode method_5_code 35 = .ok (.iadd, 1) := by decide +kernel
theorem od_method_5_36 : decode method_5_code 36 = .ok (.aload_n 0, 1) := by decide +kernel
theorem od_method_5_37 : decode method_5_code 37 = .ok (.iconst 5, 1) := by decide +kernel
theorem od_method_5_38 : decode method_5_code 38 = .ok (.iload_n 1, 1) := by decide +kernel
theorem od_method_5_39 : decode method_5_code 39 = .ok (.invokestatic 27, 3) := by decide +kernel
theorem od_method_5_42 : decode method_5_code 42 = .ok (.iadd, 1) := by decide +kernel
theorem od_method_5_43 : decode method_5_code 43 = .ok (.ireturn, 1) := by decide +kernel
theorem oef_rm_ref (m : MethodId) (rb : Addr) (u0 : Int32) : entryFrame m #[(.ref rb), (.int u0)] 2 = mkF m 0 #[.val (.ref rb), .val (.int u0)] [] := by first | (simp [entryFrame, mkF, argsToLocals, Value.category]; done) | rfl
set_option maxRecDepth 65536 in
set_option maxHeartbeats 40000000 in
theorem rm_ref (l : Launch) (Z : State) (a0 : Array Value) (hw : ∀ d ∈ tables_1, d.before a0 Z = true) (rb : Addr) (u0 : Int32) (gb : Nat → Int32) (h0 : Heap) (n0 : Nat) (Z0 : n0 ≤ h0.size) (P0 : own_AI Z h0 rb .byte (6 : Int32) gb) :
    own_M l Z (⟨"com/example/structlane/structlane/header/SourceTextLineOfPinLaw", "ref", "([BI)I"⟩ : MethodName) method_5_code 2 (some .int) [] ({ frames := 1, cells := 0, slots := 0, locals := 15 } : Room) #[(.ref rb), (.int u0)] h0 (fun v h L => v = some (.int (((((((1 : Int32) + (own_nl gb (0 : Int32) u0)) + (own_nl gb (1 : Int32) u0)) + (own_nl gb (2 : Int32) u0)) + (own_nl gb (3 : Int32) u0)) + (own_nl gb (4 : Int32) u0)) + (own_nl gb (5 : Int32) u0))) ∧ Fr n0 L ∧ (h = h0)) 0 0 := by
  refine own_body (plainFor_of_name opn_com_example_structlane_structlane_header_SourceTextLineOfPinLaw) ?_
  intro p e s m below meth c s1 hx hby hml hown hnm hret hlk hZ X0 e0
  rw [oef_rm_ref m rb u0]
  have N0 := Fr.nil n0
  refine own_iconst X0 hx (hb hby od_method_5_0) (z := (1 : Int32)) rfl (pc' := 1) rfl ?_
  refine own_aloadN X0 hx (hb hby od_method_5_1) rfl rfl (pc' := 2) rfl ?_
  refine own_iconst X0 hx (hb hby od_method_5_2) (z := (0 : Int32)) rfl (pc' := 3) rfl ?_
  refine own_iloadN X0 hx (hb hby od_method_5_3) rfl (pc' := 4) rfl ?_
  refine own_callS X0 hx hZ hown (ow_61 hw) (ow_62 hw) (ow_3 hw) (ow_63 hw) (by decide) (rm_nl l Z a0 hw rb (0 : Int32) u0 gb h0 n0 Z0 P0 (by decide)) e0 (W := 1) (by decide) (by decide) opd___BII_I rfl (rest := [(.int (1 : Int32))]) rfl (hb hby od_method_5_4) (Nat.le_of_eq rfl) (by rw [hml]; rfl) (by decide) (by decide) (pc' := 7) rfl ?_
  intro v1 T1 L1 X1 q1
  obtain ⟨rfl, Nq1, eh1⟩ := q1
  have N1 := Fr.app N0 Nq1
  show own_G p e below _ (T1.setTop (mkF m 7 #[.val (.ref rb), .val (.int u0)] [(.int (own_nl gb (0 : Int32) u0)), (.int (1 : Int32))]))
  refine own_iadd X1 hx (hb hby od_method_5_7) (pc' := 8) rfl ?_
  refine own_aloadN X1 hx (hb hby od_method_5_8) rfl rfl (pc' := 9) rfl ?_
  refine own_iconst X1 hx (hb hby od_method_5_9) (z := (1 : Int32)) rfl (pc' := 10) rfl ?_
  refine own_iloadN X1 hx (hb hby od_method_5_10) rfl (pc' := 11) rfl ?_
  refine own_callS X1 hx hZ hown (ow_61 hw) (ow_62 hw) (ow_3 hw) (ow_63 hw) (by decide) (rm_nl l Z a0 hw rb (1 : Int32) u0 gb h0 n0 Z0 P0 (by decide)) eh1 (W := 1) (by decide) (by decide) opd___BII_I rfl (rest := [(.int ((1 : Int32) + (own_nl gb (0 : Int32) u0)))]) rfl (hb hby od_method_5_11) (Nat.le_of_eq rfl) (by rw [hml]; rfl) (by decide) (by decide) (pc' := 14) rfl ?_
  intro v2 T2 L2 X2 q2
  obtain ⟨rfl, Nq2, eh2⟩ := q2
  have N2 := Fr.app N1 Nq2
  show own_G p e below _ (T2.setTop (mkF m 14 #[.val (.ref rb), .val (.int u0)] [(.int (own_nl gb (1 : Int32) u0)), (.int ((1 : Int32) + (own_nl gb (0 : Int32) u0)))]))
  refine own_iadd X2 hx (hb hby od_method_5_14) (pc' := 15) rfl ?_
  refine own_aloadN X2 hx (hb hby od_method_5_15) rfl rfl (pc' := 16) rfl ?_
  refine own_iconst X2 hx (hb hby od_method_5_16) (z := (2 : Int32)) rfl (pc' := 17) rfl ?_
  refine own_iloadN X2 hx (hb hby od_method_5_17) rfl (pc' := 18) rfl ?_
  refine own_callS X2 hx hZ hown (ow_61 hw) (ow_62 hw) (ow_3 hw) (ow_63 hw) (by decide) (rm_nl l Z a0 hw rb (2 : Int32) u0 gb h0 n0 Z0 P0 (by decide)) eh2 (W := 1) (by decide) (by decide) opd___BII_I rfl (rest := [(.int (((1 : Int32) + (own_nl gb (0 : Int32) u0)) + (own_nl gb (1 : Int32) u0)))]) rfl (hb hby od_method_5_18) (Nat.le_of_eq rfl) (by rw [hml]; rfl) (by decide) (by decide) (pc' := 21) rfl ?_
  intro v3 T3 L3 X3 q3
  obtain ⟨rfl, Nq3, eh3⟩ := q3
  have N3 := Fr.app N2 Nq3
  show own_G p e below _ (T3.setTop (mkF m 21 #[.val (.ref rb), .val (.int u0)] [(.int (own_nl gb (2 : Int32) u0)), (.int (((1 : Int32) + (own_nl gb (0 : Int32) u0)) + (own_nl gb (1 : Int32) u0)))]))
  refine own_iadd X3 hx (hb hby od_method_5_21) (pc' := 22) rfl ?_
  refine own_aloadN X3 hx (hb hby od_method_5_22) rfl rfl (pc' := 23) rfl ?_
  refine own_iconst X3 hx (hb hby od_method_5_23) (z := (3 : Int32)) rfl (pc' := 24) rfl ?_
  refine own_iloadN X3 hx (hb hby od_method_5_24) rfl (pc' := 25) rfl ?_
  refine own_callS X3 hx hZ hown (ow_61 hw) (ow_62 hw) (ow_3 hw) (ow_63 hw) (by decide) (rm_nl l Z a0 hw rb (3 : Int32) u0 gb h0 n0 Z0 P0 (by decide)) eh3 (W := 1) (by decide) (by decide) opd___BII_I rfl (rest := [(.int ((((1 : Int32) + (own_nl gb (0 : Int32) u0)) + (own_nl gb (1 : Int32) u0)) + (own_nl gb (2 : Int32) u0)))]) rfl (hb hby od_method_5_25) (Nat.le_of_eq rfl) (by rw [hml]; rfl) (by decide) (by decide) (pc' := 28) rfl ?_
  intro v4 T4 L4 X4 q4
  obtain ⟨rfl, Nq4, eh4⟩ := q4
  have N4 := Fr.app N3 Nq4
  show own_G p e below _ (T4.setTop (mkF m 28 #[.val (.ref rb), .val (.int u0)] [(.int (own_nl gb (3 : Int32) u0)), (.int ((((1 : Int32) + (own_nl gb (0 : Int32) u0)) + (own_nl gb (1 : Int32) u0)) + (own_nl gb (2 : Int32) u0)))]))
  refine own_iadd X4 hx (hb hby od_method_5_28) (pc' := 29) rfl ?_
  refine own_aloadN X4 hx (hb hby od_method_5_29) rfl rfl (pc' := 30) rfl ?_
  refine own_iconst X4 hx (hb hby od_method_5_30) (z := (4 : Int32)) rfl (pc' := 31) rfl ?_
  refine own_iloadN X4 hx (hb hby od_method_5_31) rfl (pc' := 32) rfl ?_
  refine own_callS X4 hx hZ hown (ow_61 hw) (ow_62 hw) (ow_3 hw) (ow_63 hw) (by decide) (rm_nl l Z a0 hw rb (4 : Int32) u0 gb h0 n0 Z0 P0 (by decide)) eh4 (W := 1) (by decide) (by decide) opd___BII_I rfl (rest := [(.int (((((1 : Int32) + (own_nl gb (0 : Int32) u0)) + (own_nl gb (1 : Int32) u0)) + (own_nl gb (2 : Int32) u0)) + (own_nl gb (3 : Int32) u0)))]) rfl (hb hby od_method_5_32) (Nat.le_of_eq rfl) (by rw [hml]; rfl) (by decide) (by decide) (pc' := 35) rfl ?_
  intro v5 T5 L5 X5 q5
  obtain ⟨rfl, Nq5, eh5⟩ := q5
  have N5 := Fr.app N4 Nq5
  show own_G p e below _ (T5.setTop (mkF m 35 #[.val (.ref rb), .val (.int u0)] [(.int (own_nl gb (4 : Int32) u0)), (.int (((((1 : Int32) + (own_nl gb (0 : Int32) u0)) + (own_nl gb (1 : Int32) u0)) + (own_nl gb (2 : Int32) u0)) + (own_nl gb (3 : Int32) u0)))]))
  refine own_iadd X5 hx (hb hby od_method_5_35) (pc' := 36) rfl ?_
  refine own_aloadN X5 hx (hb hby od_method_5_36) rfl rfl (pc' := 37) rfl ?_
  refine own_iconst X5 hx (hb hby od_method_5_37) (z := (5 : Int32)) rfl (pc' := 38) rfl ?_
  refine own_iloadN X5 hx (hb hby od_method_5_38) rfl (pc' := 39) rfl ?_
  refine own_callS X5 hx hZ hown (ow_61 hw) (ow_62 hw) (ow_3 hw) (ow_63 hw) (by decide) (rm_nl l Z a0 hw rb (5 : Int32) u0 gb h0 n0 Z0 P0 (by decide)) eh5 (W := 1) (by decide) (by decide) opd___BII_I rfl (rest := [(.int ((((((1 : Int32) + (own_nl gb (0 : Int32) u0)) + (own_nl gb (1 : Int32) u0)) + (own_nl gb (2 : Int32) u0)) + (own_nl gb (3 : Int32) u0)) + (own_nl gb (4 : Int32) u0)))]) rfl (hb hby od_method_5_39) (Nat.le_of_eq rfl) (by rw [hml]; rfl) (by decide) (by decide) (pc' := 42) rfl ?_
  intro v6 T6 L6 X6 q6
  obtain ⟨rfl, Nq6, eh6⟩ := q6
  have N6 := Fr.app N5 Nq6
  show own_G p e below _ (T6.setTop (mkF m 42 #[.val (.ref rb), .val (.int u0)] [(.int (own_nl gb (5 : Int32) u0)), (.int ((((((1 : Int32) + (own_nl gb (0 : Int32) u0)) + (own_nl gb (1 : Int32) u0)) + (own_nl gb (2 : Int32) u0)) + (own_nl gb (3 : Int32) u0)) + (own_nl gb (4 : Int32) u0)))]))
  refine own_iadd X6 hx (hb hby od_method_5_42) (pc' := 43) rfl ?_
  exact own_retI X6 hx hret hlk (hb hby od_method_5_43) ⟨rfl, N6, eh6⟩ (by decide) (by decide)
theorem od_prog_191_method_5_0 : decode prog_191_method_5_code 0 = .ok (.aload_n 0, 1) := by decide +kernel
theorem od_prog_191_method_5_1 : decode prog_191_method_5_code 1 = .ok (.getfield 16, 3) := by decide +kernel
theorem ow_32 {Z : State} {a0 : Array Value} (hw : ∀ d ∈ tables_1, d.before a0 Z = true) : (Jvm.Cond.fieldLink "com/example/structlane/structlane/header/SourceText$Joins" (16 : Nat) "com/example/structlane/structlane/header/SourceText$Joins" "lines" "I").before a0 Z = true := hw _ (List.mem_of_getElem? (i := 32) rfl)
theorem od_prog_191_method_5_4 : decode prog_191_method_5_code 4 = .ok (.aload_n 0, 1) := by decide +kernel
theorem od_prog_191_method_5_5 : decode prog_191_method_5_code 5 = .ok (.getfield 13, 3) := by decide +kernel
theorem ow_30 {Z : State} {a0 : Array Value} (hw : ∀ d ∈ tables_1, d.before a0 Z = true) : (Jvm.Cond.fieldLink "com/example/structlane/structlane/header/SourceText$Joins" (13 : Nat) "com/example/structlane/structlane/header/SourceText$Joins" "lineStarts" "[I").before a0 Z = true := hw _ (List.mem_of_getElem? (i := 30) rfl)
theorem od_prog_191_method_5_8 : decode prog_191_method_5_code 8 = .ok (.arraylength, 1) := by decide +kernel
theorem od_prog_191_method_5_9 : decode prog_191_method_5_code 9 = .ok (.if_icmp .ne 20, 3) := by decide +kernel
theorem od_prog_191_method_5_29 : decode prog_191_method_5_code 29 = .ok (.aload_n 0, 1) := by decide +kernel
theorem od_prog_191_method_5_30 : decode prog_191_method_5_code 30 = .ok (.getfield 13, 3) := by decide +kernel
theorem od_prog_191_method_5_33 : decode prog_191_method_5_code 33 = .ok (.aload_n 0, 1) := by decide +kernel
theorem od_prog_191_method_5_34 : decode prog_191_method_5_code 34 = .ok (.dup, 1) := by decide +kernel
theorem od_prog_191_method_5_35 : decode prog_191_method_5_code 35 = .ok (.getfield 16, 3) := by decide +kernel
theorem od_prog_191_method_5_38 : decode prog_191_method_5_code 38 = .ok (.dup_x1, 1) := by decide +kernel
theorem od_prog_191_method_5_39 : decode prog_191_method_5_code 39 = .ok (.iconst 1, 1) := by decide +kernel
theorem od_prog_191_method_5_40 : decode prog_191_method_5_code 40 = .ok (.iadd, 1) := by decide +kernel
theorem od_prog_191_method_5_41 : decode prog_191_method_5_code 41 = .ok (.putfield 16, 3) := by decide +kernel
theorem ow_33 {Z : State} {a0 : Array Value} (hw : ∀ d ∈ tables_1, d.before a0 Z = true) : (Jvm.Cond.lays "com/example/structlane/structlane/header/SourceText$Joins" "com/example/structlane/structlane/header/SourceText$Joins" "lines" "I").before a0 Z = true := hw _ (List.mem_of_getElem? (i := 33) rfl)
theorem ow_21 {Z : State} {a0 : Array Value} (hw : ∀ d ∈ tables_1, d.before a0 Z = true) : (Jvm.Cond.instantiable "com/example/structlane/structlane/header/SourceText$Joins" (5 : Nat)).before a0 Z = true := hw _ (List.mem_of_getElem? (i := 21) rfl)
theorem od_prog_191_method_5_44 : decode prog_191_method_5_code 44 = .ok (.iload_n 1, 1) := by decide +kernel
theorem od_prog_191_method_5_45 : decode prog_191_method_5_code 45 = .ok (.iastore, 1) := by decide +kernel
theorem od_prog_191_method_5_46 : decode prog_191_method_5_code 46 = .ok (.return_, 1) := by decide +kernel
theorem ow_29 {Z : State} {a0 : Array Value} (hw : ∀ d ∈ tables_1, d.before a0 Z = true) : (Jvm.Cond.lays "com/example/structlane/structlane/header/SourceText$Joins" "com/example/structlane/structlane/header/SourceText$Joins" "changes" "[I").before a0 Z = true := hw _ (List.mem_of_getElem? (i := 29) rfl)
theorem osn_0 {Z : State} {a0 : Array Value} (hw : ∀ d ∈ tables_1, d.before a0 Z = true) : RoadKit.slotOf Z "com/example/structlane/structlane/header/SourceText$Joins" "changes" "[I" ≠ RoadKit.slotOf Z "com/example/structlane/structlane/header/SourceText$Joins" "lines" "I" := slot_ne (C := "com/example/structlane/structlane/header/SourceText$Joins") (Or.inl (ow_29 hw)) (Or.inl (ow_33 hw)) (by decide) (t := (.array .int)) (t' := .int) (by decide) (by decide)
theorem ow_31 {Z : State} {a0 : Array Value} (hw : ∀ d ∈ tables_1, d.before a0 Z = true) : (Jvm.Cond.lays "com/example/structlane/structlane/header/SourceText$Joins" "com/example/structlane/structlane/header/SourceText$Joins" "lineStarts" "[I").before a0 Z = true := hw _ (List.mem_of_getElem? (i := 31) rfl)
theorem osn_1 {Z : State} {a0 : Array Value} (hw : ∀ d ∈ tables_1, d.before a0 Z = true) : RoadKit.slotOf Z "com/example/structlane/structlane/header/SourceText$Joins" "lineStarts" "[I" ≠ RoadKit.slotOf Z "com/example/structlane/structlane/header/SourceText$Joins" "lines" "I" := slot_ne (C := "com/example/structlane/structlane/header/SourceText$Joins") (Or.inl (ow_31 hw)) (Or.inl (ow_33 hw)) (by decide) (t := (.array .int)) (t' := .int) (by decide) (by decide)
theorem ow_40 {Z : State} {a0 : Array Value} (hw : ∀ d ∈ tables_1, d.before a0 Z = true) : (Jvm.Cond.lays "com/example/structlane/structlane/header/SourceText$Joins" "com/example/structlane/structlane/header/SourceText$Joins" "count" "I").before a0 Z = true := hw _ (List.mem_of_getElem? (i := 40) rfl)
theorem osn_2 {Z : State} {a0 : Array Value} (hw : ∀ d ∈ tables_1, d.before a0 Z = true) : RoadKit.slotOf Z "com/example/structlane/structlane/header/SourceText$Joins" "count" "I" ≠ RoadKit.slotOf Z "com/example/structlane/structlane/header/SourceText$Joins" "lines" "I" := slot_ne (C := "com/example/structlane/structlane/header/SourceText$Joins") (Or.inl (ow_40 hw)) (Or.inl (ow_33 hw)) (by decide) (t := .int) (t' := .int) (by decide) (by decide)
theorem ow_65 {Z : State} {a0 : Array Value} (hw : ∀ d ∈ tables_1, d.before a0 Z = true) : (Jvm.Cond.lays "com/example/structlane/structlane/header/SourceText$Joins" "com/example/structlane/structlane/header/SourceText$Joins" "deleted" "I").before a0 Z = true := hw _ (List.mem_of_getElem? (i := 65) rfl)
theorem osn_3 {Z : State} {a0 : Array Value} (hw : ∀ d ∈ tables_1, d.before a0 Z = true) : RoadKit.slotOf Z "com/example/structlane/structlane/header/SourceText$Joins" "deleted" "I" ≠ RoadKit.slotOf Z "com/example/structlane/structlane/header/SourceText$Joins" "lines" "I" := slot_ne (C := "com/example/structlane/structlane/header/SourceText$Joins") (Or.inl (ow_65 hw)) (Or.inl (ow_33 hw)) (by decide) (t := .int) (t' := .int) (by decide) (by decide)
theorem opn_com_example_structlane_structlane_header_SourceText_Joins : plainName "com/example/structlane/structlane/header/SourceText$Joins" = true := by first | (simp [plainName, overriddenIn]; done) | decide +kernel
theorem oef_rm_sl (m : MethodId) (rj : Addr) (u0 : Int32) : entryFrame m #[(.ref rj), (.int u0)] 2 = mkF m 0 #[.val (.ref rj), .val (.int u0)] [] := by first | (simp [entryFrame, mkF, argsToLocals, Value.category]; done) | rfl
set_option maxRecDepth 65536 in
set_option maxHeartbeats 40000000 in
theorem rm_sl (l : Launch) (Z : State) (a0 : Array Value) (hw : ∀ d ∈ tables_1, d.before a0 Z = true) (rj : Addr) (u0 : Int32) (rl : Addr) (LL : Int32) (gl : Nat → Int32) (w0 : Value) (h0 : Heap) (n0 : Nat) (Z0 : n0 ≤ h0.size) (P0 : Exa Z h0 rj "com/example/structlane/structlane/header/SourceText$Joins") (P1 : Fld Z h0 rj "com/example/structlane/structlane/header/SourceText$Joins" "changes" "[I" (w0)) (P2 : Fld Z h0 rj "com/example/structlane/structlane/header/SourceText$Joins" "lineStarts" "[I" (.ref rl)) (P3 : Fld Z h0 rj "com/example/structlane/structlane/header/SourceText$Joins" "lines" "I" (.int LL)) (P4 : Fld Z h0 rj "com/example/structlane/structlane/header/SourceText$Joins" "count" "I" (.int (0 : Int32))) (P5 : Fld Z h0 rj "com/example/structlane/structlane/header/SourceText$Joins" "deleted" "I" (.int (0 : Int32))) (P6 : own_AI Z h0 rl .int (64 : Int32) gl) (g_rj : n0 ≤ rj) (g_rl : n0 ≤ rl) (ne_rj_rl : rj ≠ rl) (hL : 0 ≤ LL.toInt ∧ LL.toInt < 64) :
    own_M l Z (⟨"com/example/structlane/structlane/header/SourceText$Joins", "startLine", "(I)V"⟩ : MethodName) prog_191_method_5_code 2 none [] ({ frames := 0, cells := 0, slots := 0, locals := 0 } : Room) #[(.ref rj), (.int u0)] h0 (fun v h L => v = none ∧ Fr n0 L ∧ (Keep h0 h [rj, rl]) ∧ (Fld Z h rj "com/example/structlane/structlane/header/SourceText$Joins" "changes" "[I" (w0)) ∧ (Fld Z h rj "com/example/structlane/structlane/header/SourceText$Joins" "lineStarts" "[I" (.ref rl)) ∧ (Fld Z h rj "com/example/structlane/structlane/header/SourceText$Joins" "lines" "I" (.int (LL + (1 : Int32)))) ∧ (Fld Z h rj "com/example/structlane/structlane/header/SourceText$Joins" "count" "I" (.int (0 : Int32))) ∧ (Fld Z h rj "com/example/structlane/structlane/header/SourceText$Joins" "deleted" "I" (.int (0 : Int32))) ∧ (own_AI Z h rl .int (64 : Int32) (fun zi => if zi = LL.toNatClampNeg then u0 else gl zi))) 0 0 := by
  refine own_body (plainFor_of_name opn_com_example_structlane_structlane_header_SourceText_Joins) ?_
  intro p e s m below meth c s1 hx hby hml hown hnm hret hlk hZ X0 e0
  rw [oef_rm_sl m rj u0]
  have N0 := Fr.nil n0
  refine own_aloadN X0 hx (hb hby od_prog_191_method_5_0) rfl rfl (pc' := 1) rfl ?_
  refine own_getF X0 hx hZ hown (ow_32 hw) e0 P3 (hb hby od_prog_191_method_5_1) (pc' := 4) rfl ?_
  intro T1 X1 e1
  refine own_aloadN X1 hx (hb hby od_prog_191_method_5_4) rfl rfl (pc' := 5) rfl ?_
  refine own_getF X1 hx hZ hown (ow_30 hw) e1 P2 (hb hby od_prog_191_method_5_5) (pc' := 8) rfl ?_
  intro T2 X2 e2
  refine own_lenI X2 hx hZ e2 P6 (hb hby od_prog_191_method_5_8) (pc' := 9) rfl ?_
  refine own_icmpT X2 hx (hb hby od_prog_191_method_5_9) (feq (own_ne64 hL)).2 (by decide) (pc' := 29) rfl ?_
  refine own_aloadN X2 hx (hb hby od_prog_191_method_5_29) rfl rfl (pc' := 30) rfl ?_
  refine own_getF X2 hx hZ hown (ow_30 hw) e2 P2 (hb hby od_prog_191_method_5_30) (pc' := 33) rfl ?_
  intro T3 X3 e3
  refine own_aloadN X3 hx (hb hby od_prog_191_method_5_33) rfl rfl (pc' := 34) rfl ?_
  refine own_dup X3 hx (hb hby od_prog_191_method_5_34) rfl (pc' := 35) rfl ?_
  refine own_getF X3 hx hZ hown (ow_32 hw) e3 P3 (hb hby od_prog_191_method_5_35) (pc' := 38) rfl ?_
  intro T4 X4 e4
  refine own_dupX1 X4 hx (hb hby od_prog_191_method_5_38) rfl rfl (pc' := 39) rfl ?_
  refine own_iconst X4 hx (hb hby od_prog_191_method_5_39) (z := (1 : Int32)) rfl (pc' := 40) rfl ?_
  refine own_iadd X4 hx (hb hby od_prog_191_method_5_40) (pc' := 41) rfl ?_
  refine own_putF X4 hx hZ hown (ow_32 hw) e4 P3 P0 (Or.inl (ow_33 hw)) (ow_21 hw) (ty := .int) (by decide) rfl rfl (hb hby od_prog_191_method_5_41) (pc' := 44) rfl ?_
  intro T5 h5 X5 e5 W5
  have N5 := Fr.snoc X5 N0 g_rj
  refine own_iloadN X5 hx (hb hby od_prog_191_method_5_44) rfl (pc' := 45) rfl ?_
  have f6 : own_AI Z h5 rl .int (64 : Int32) gl := (P6.other W5 (Ne.symm ne_rj_rl))
  refine own_iastore X5 hx hZ e5 (g' := (fun zi => if zi = LL.toNatClampNeg then u0 else gl zi)) f6 (x' := u0) (own_ib64 hL) rfl (fun i _ => rfl) (hb hby od_prog_191_method_5_45) (pc' := 46) rfl ?_
  intro T7 h7 X7 e7 W7 A7
  have N7 := Fr.snoc X7 N5 g_rl
  have k10 : Keep h0 h7 [rj, rl] := (Keep.wr (Keep.wr (Keep.refl _ _) W5 (Or.inl (List.mem_of_getElem? (i := 0) rfl))) W7 (Or.inl (List.mem_of_getElem? (i := 1) rfl)))
  have f11 : Fld Z h7 rj "com/example/structlane/structlane/header/SourceText$Joins" "changes" "[I" (w0) := ((P1.other W5 (Or.inr (osn_0 hw))).other W7 (Or.inl ne_rj_rl))
  have f12 : Fld Z h7 rj "com/example/structlane/structlane/header/SourceText$Joins" "lineStarts" "[I" (.ref rl) := ((P2.other W5 (Or.inr (osn_1 hw))).other W7 (Or.inl ne_rj_rl))
  have f13 : Fld Z h7 rj "com/example/structlane/structlane/header/SourceText$Joins" "lines" "I" (.int (LL + (1 : Int32))) := ((P3.same W5).other W7 (Or.inl ne_rj_rl))
  have f14 : Fld Z h7 rj "com/example/structlane/structlane/header/SourceText$Joins" "count" "I" (.int (0 : Int32)) := ((P4.other W5 (Or.inr (osn_2 hw))).other W7 (Or.inl ne_rj_rl))
  have f15 : Fld Z h7 rj "com/example/structlane/structlane/header/SourceText$Joins" "deleted" "I" (.int (0 : Int32)) := ((P5.other W5 (Or.inr (osn_3 hw))).other W7 (Or.inl ne_rj_rl))
  exact own_retV X7 hx hret hlk (hb hby od_prog_191_method_5_46) ⟨rfl, N7, (by rw [e7]; exact k10), (by rw [e7]; exact f11), (by rw [e7]; exact f12), (by rw [e7]; exact f13), (by rw [e7]; exact f14), (by rw [e7]; exact f15), (by rw [e7]; exact A7)⟩ (by decide) (by decide)
theorem od_prog_191_method_1_27 : decode prog_191_method_1_code 27 = .ok (.iload_n 2, 1) := by decide +kernel
theorem od_prog_191_method_1_28 : decode prog_191_method_1_code 28 = .ok (.aload_n 1, 1) := by decide +kernel
theorem od_prog_191_method_1_29 : decode prog_191_method_1_code 29 = .ok (.arraylength, 1) := by decide +kernel
theorem od_prog_191_method_1_30 : decode prog_191_method_1_code 30 = .ok (.if_icmp .ge 124, 3) := by decide +kernel
theorem od_prog_191_method_1_33 : decode prog_191_method_1_code 33 = .ok (.aload_n 1, 1) := by decide +kernel
theorem od_prog_191_method_1_34 : decode prog_191_method_1_code 34 = .ok (.iload_n 2, 1) := by decide +kernel
theorem od_prog_191_method_1_35 : decode prog_191_method_1_code 35 = .ok (.iinc 2 1, 3) := by decide +kernel
theorem od_prog_191_method_1_38 : decode prog_191_method_1_code 38 = .ok (.baload, 1) := by decide +kernel
theorem od_prog_191_method_1_39 : decode prog_191_method_1_code 39 = .ok (.istore_n 3, 1) := by decide +kernel
theorem od_prog_191_method_1_40 : decode prog_191_method_1_code 40 = .ok (.iload_n 3, 1) := by decide +kernel
theorem od_prog_191_method_1_41 : decode prog_191_method_1_code 41 = .ok (.bipush 13, 2) := by decide +kernel
theorem od_prog_191_method_1_43 : decode prog_191_method_1_code 43 = .ok (.if_icmp .le 9, 3) := by decide +kernel
theorem od_prog_191_method_1_52 : decode prog_191_method_1_code 52 = .ok (.iload_n 3, 1) := by decide +kernel
theorem od_prog_191_method_1_53 : decode prog_191_method_1_code 53 = .ok (.bipush 10, 2) := by decide +kernel
theorem od_prog_191_method_1_55 : decode prog_191_method_1_code 55 = .ok (.if_icmp .ne 16, 3) := by decide +kernel
theorem od_prog_191_method_1_58 : decode prog_191_method_1_code 58 = .ok (.aload_n 0, 1) := by decide +kernel
theorem od_prog_191_method_1_59 : decode prog_191_method_1_code 59 = .ok (.iload_n 2, 1) := by decide +kernel
theorem od_prog_191_method_1_60 : decode prog_191_method_1_code 60 = .ok (.aload_n 0, 1) := by decide +kernel
theorem od_prog_191_method_1_61 : decode prog_191_method_1_code 61 = .ok (.getfield 20, 3) := by decide +kernel
theorem ow_64 {Z : State} {a0 : Array Value} (hw : ∀ d ∈ tables_1, d.before a0 Z = true) : (Jvm.Cond.fieldLink "com/example/structlane/structlane/header/SourceText$Joins" (20 : Nat) "com/example/structlane/structlane/header/SourceText$Joins" "deleted" "I").before a0 Z = true := hw _ (List.mem_of_getElem? (i := 64) rfl)
theorem od_prog_191_method_1_64 : decode prog_191_method_1_code 64 = .ok (.isub, 1) := by decide +kernel
theorem od_prog_191_method_1_65 : decode prog_191_method_1_code 65 = .ok (.invokevirtual 23, 3) := by decide +kernel
theorem ow_66 {Z : State} {a0 : Array Value} (hw : ∀ d ∈ tables_1, d.before a0 Z = true) : (Jvm.Cond.methodLink "com/example/structlane/structlane/header/SourceText$Joins" (23 : Nat) ({ cls := "com/example/structlane/structlane/header/SourceText$Joins", name := "startLine", desc := "(I)V" } : Jvm.MethodName)).before a0 Z = true := hw _ (List.mem_of_getElem? (i := 66) rfl)
theorem opd__I_V : parseMethodDescriptor "(I)V" = some ⟨[.int], none⟩ := by decide +kernel
theorem ow_67 {Z : State} {a0 : Array Value} (hw : ∀ d ∈ tables_1, d.before a0 Z = true) : (Jvm.Cond.instanceMethod ({ cls := "com/example/structlane/structlane/header/SourceText$Joins", name := "startLine", desc := "(I)V" } : Jvm.MethodName)).before a0 Z = true := hw _ (List.mem_of_getElem? (i := 67) rfl)
theorem ow_68 {Z : State} {a0 : Array Value} (hw : ∀ d ∈ tables_1, d.before a0 Z = true) : (Jvm.Cond.privateMethod ({ cls := "com/example/structlane/structlane/header/SourceText$Joins", name := "startLine", desc := "(I)V" } : Jvm.MethodName)).before a0 Z = true := hw _ (List.mem_of_getElem? (i := 68) rfl)
theorem ow_22 {Z : State} {a0 : Array Value} (hw : ∀ d ∈ tables_1, d.before a0 Z = true) : (Jvm.Cond.initialized "com/example/structlane/structlane/header/SourceText$Joins").before a0 Z = true := hw _ (List.mem_of_getElem? (i := 22) rfl)
theorem ow_69 {Z : State} {a0 : Array Value} (hw : ∀ d ∈ tables_1, d.before a0 Z = true) : (Jvm.Cond.code ({ cls := "com/example/structlane/structlane/header/SourceText$Joins", name := "startLine", desc := "(I)V" } : Jvm.MethodName) prog_191_method_5_code (2 : Nat) (Option.none : Option Jvm.ClassFile.FieldType)).before a0 Z = true := hw _ (List.mem_of_getElem? (i := 69) rfl)
theorem od_prog_191_method_1_68 : decode prog_191_method_1_code 68 = .ok (.goto 83, 3) := by decide +kernel
theorem od_prog_191_method_1_151 : decode prog_191_method_1_code 151 = .ok (.goto (-124), 3) := by decide +kernel
theorem od_prog_191_method_1_46 : decode prog_191_method_1_code 46 = .ok (.iload_n 3, 1) := by decide +kernel
theorem od_prog_191_method_1_47 : decode prog_191_method_1_code 47 = .ok (.bipush 92, 2) := by decide +kernel
theorem od_prog_191_method_1_49 : decode prog_191_method_1_code 49 = .ok (.if_icmp .ne 102, 3) := by decide +kernel
section Own_own_turn0
variable {p : Program} {l : Launch} {e : Env} {R : Room} {s : State} {m : MethodId} {args : Array Value} {below : List Frame} {meth : Method} {c : Code} {T : State} {locs : List Loc} {cells slots : Nat} {Z : State} {a0 : Array Value} {h : Heap} {Q : Option Value → Heap → List Loc → Prop} {P : State → Outcome → Prop} {ce sl : Nat} {pc pc' : Nat} {Ls : Array Slot} {st : List Value}
set_option maxRecDepth 65536 in
set_option maxHeartbeats 40000000 in
theorem own_turn0 (hw : ∀ d ∈ tables_1, d.before a0 Z = true) (X : Stand p l e ({ frames := 1, cells := 2, slots := 72, locals := 13 } : Room) s m args below meth c T locs (0 + 1 + 1) (0 + 8 + 64)) (hx : p.tables.exec = Jvm.exec) (hby : c.code = prog_191_method_1_code) (hml : c.maxLocals = 6) (hown : s.vm.findClass "com/example/structlane/structlane/header/SourceText$Joins" = some m.cls) (hZ : Z.Warmed39 s.vm) (eT : T.heap = h) (n0 : Nat) (N0 : Fr n0 locs) (Z0 : n0 ≤ h.size) (rj rb rl : Addr) (gb gl : Nat → Int32) (LL i : Int32) (w0 : Value) (n : Nat) (hi : i.toInt = n) (hn : n < 6) (hB6 : ∀ j : Nat, j < 6 → gb j = (10 : Int32) ∨ gb j = (97 : Int32)) (I0 : own_inv gb n gl LL) (P0 : Exa Z h rj "com/example/structlane/structlane/header/SourceText$Joins") (P1 : Fld Z h rj "com/example/structlane/structlane/header/SourceText$Joins" "changes" "[I" (w0)) (P2 : Fld Z h rj "com/example/structlane/structlane/header/SourceText$Joins" "lineStarts" "[I" (.ref rl)) (P3 : Fld Z h rj "com/example/structlane/structlane/header/SourceText$Joins" "lines" "I" (.int LL)) (P4 : Fld Z h rj "com/example/structlane/structlane/header/SourceText$Joins" "count" "I" (.int (0 : Int32))) (P5 : Fld Z h rj "com/example/structlane/structlane/header/SourceText$Joins" "deleted" "I" (.int (0 : Int32))) (P6 : own_AI Z h rl .int (64 : Int32) gl) (P7 : own_AI Z h rb .byte (6 : Int32) gb) (g_rj : n0 ≤ rj) (g_rl : n0 ≤ rl) (ne1 : rj ≠ rl) (ne2 : rj ≠ rb) (ne3 : rl ≠ rb)
    (k : ∀ (T' : State) (h' : Heap) (lc' : List Loc) (g' : Nat → Int32) (L' c' : Int32), Stand p l e ({ frames := 1, cells := 2, slots := 72, locals := 13 } : Room) s m args below meth c T' lc' (0 + 1 + 1) (0 + 8 + 64) → T'.heap = h' → Fr n0 lc' → Keep h h' [rj, rl] → own_inv gb (n + 1) g' L' → Fld Z h' rj "com/example/structlane/structlane/header/SourceText$Joins" "changes" "[I" (w0) → Fld Z h' rj "com/example/structlane/structlane/header/SourceText$Joins" "lineStarts" "[I" (.ref rl) → Fld Z h' rj "com/example/structlane/structlane/header/SourceText$Joins" "lines" "I" (.int L') → Fld Z h' rj "com/example/structlane/structlane/header/SourceText$Joins" "count" "I" (.int (0 : Int32)) → Fld Z h' rj "com/example/structlane/structlane/header/SourceText$Joins" "deleted" "I" (.int (0 : Int32)) → own_AI Z h' rl .int (64 : Int32) g' → own_G p e below P (T'.setTop (mkF m 27 #[.val (.ref rj), .val (.ref rb), .val (.int (i + (1 : Int32))), .val (.int c'), .unset, .unset] []))) : own_G p e below P (T.setTop (mkF m 27 #[.val (.ref rj), .val (.ref rb), .val (.int i), .unset, .unset, .unset] [])) := by
  have hi0 : ¬ i < 0 := by simp only [Int32.lt_iff_toInt_lt, Int32.reduceToInt]; omega
  have hi6 : i < (6 : Int32) := by simp only [Int32.lt_iff_toInt_lt, Int32.reduceToInt]; omega
  have hidx : i.toNatClampNeg = n := by show i.toInt.toNat = n; omega
  have hx1 : ((i + (1 : Int32)) - (0 : Int32)).toInt = n + 1 := by
    have q1 := c_iadd i 1
    have q2 := rng32 (i + 1)
    have q3 := c_isub (i + 1) 0
    have q4 := rng32 ((i + 1) - 0)
    simp only [Int32.reduceToInt] at q1 q3
    omega
  refine own_iloadN X hx (hb hby od_prog_191_method_1_27) rfl (pc' := 28) rfl ?_
  refine own_aloadN X hx (hb hby od_prog_191_method_1_28) rfl rfl (pc' := 29) rfl ?_
  refine own_lenI X hx hZ eT P7 (hb hby od_prog_191_method_1_29) (pc' := 30) rfl ?_
  refine own_icmpF X hx (hb hby od_prog_191_method_1_30) (tlt hi6).2.1 (pc' := 33) rfl ?_
  refine own_aloadN X hx (hb hby od_prog_191_method_1_33) rfl rfl (pc' := 34) rfl ?_
  refine own_iloadN X hx (hb hby od_prog_191_method_1_34) rfl (pc' := 35) rfl ?_
  refine own_iinc X hx (hb hby od_prog_191_method_1_35) rfl (z := (1 : Int32)) rfl (l' := #[.val (.ref rj), .val (.ref rb), .val (.int (i + (1 : Int32))), .unset, .unset, .unset]) rfl (pc' := 38) rfl ?_
  refine own_baload X hx hZ eT P7 (x := (gb i.toNatClampNeg)) ⟨hi0, hi6⟩ rfl (hb hby od_prog_191_method_1_38) (pc' := 39) rfl ?_
  rw [hidx]
  rcases hB6 n hn with c1 | c2
  · rw [c1]
    refine own_istoreN X hx (hb hby od_prog_191_method_1_39) (l' := #[.val (.ref rj), .val (.ref rb), .val (.int (i + (1 : Int32))), .val (.int (10 : Int32)), .unset, .unset]) rfl (pc' := 40) rfl ?_
    refine own_iloadN X hx (hb hby od_prog_191_method_1_40) rfl (pc' := 41) rfl ?_
    refine own_bipush X hx (hb hby od_prog_191_method_1_41) (z := (13 : Int32)) (by decide) (pc' := 43) rfl ?_
    refine own_icmpT X hx (hb hby od_prog_191_method_1_43) (by decide) (by decide) (pc' := 52) rfl ?_
    refine own_iloadN X hx (hb hby od_prog_191_method_1_52) rfl (pc' := 53) rfl ?_
    refine own_bipush X hx (hb hby od_prog_191_method_1_53) (z := (10 : Int32)) (by decide) (pc' := 55) rfl ?_
    refine own_icmpF X hx (hb hby od_prog_191_method_1_55) (by decide) (pc' := 58) rfl ?_
    refine own_aloadN X hx (hb hby od_prog_191_method_1_58) rfl rfl (pc' := 59) rfl ?_
    refine own_iloadN X hx (hb hby od_prog_191_method_1_59) rfl (pc' := 60) rfl ?_
    refine own_aloadN X hx (hb hby od_prog_191_method_1_60) rfl rfl (pc' := 61) rfl ?_
    refine own_getF X hx hZ hown (ow_64 hw) eT P5 (hb hby od_prog_191_method_1_61) (pc' := 64) rfl ?_
    intro T3 X3 e3
    refine own_isub X3 hx (hb hby od_prog_191_method_1_64) (pc' := 65) rfl ?_
    refine own_callP X3 hx hZ hown (ow_66 hw) (ow_67 hw) (ow_68 hw) (ow_21 hw) (ow_22 hw) (ow_69 hw) (by decide) P0 (rm_sl l Z a0 hw rj ((i + (1 : Int32)) - (0 : Int32)) rl LL gl w0 h n0 Z0 P0 P1 P2 P3 P4 P5 P6 g_rj g_rl ne1 (by have q := own_invL I0 (by omega); omega)) e3 (W := 0) (by decide) (by decide) opd__I_V rfl (rest := []) rfl (hb hby od_prog_191_method_1_65) (Nat.le_of_eq rfl) (by rw [hml]; rfl) (by decide) (by decide) (pc' := 68) rfl ?_
    intro v4 T4 L4 X4 q4
    obtain ⟨rfl, Nq4, K4, p4_0, p4_1, p4_2, p4_3, p4_4, p4_5⟩ := q4
    have N4 := Fr.app N0 Nq4
    show own_G p e below _ (T4.setTop (mkF m 68 #[.val (.ref rj), .val (.ref rb), .val (.int (i + (1 : Int32))), .val (.int (10 : Int32)), .unset, .unset] []))
    refine own_goto X4 hx (hb hby od_prog_191_method_1_68) (by decide) (pc' := 151) rfl ?_
    refine own_goto X4 hx (hb hby od_prog_191_method_1_151) (by decide) (pc' := 27) rfl ?_
    exact k _ _ _ (fun zi => if zi = LL.toNatClampNeg then ((i + (1 : Int32)) - (0 : Int32)) else gl zi) (LL + (1 : Int32)) (10 : Int32) X4 rfl N4 K4 (own_invnl I0 c1 hn hx1) p4_0 p4_1 p4_2 p4_3 p4_4 p4_5
  · rw [c2]
    refine own_istoreN X hx (hb hby od_prog_191_method_1_39) (l' := #[.val (.ref rj), .val (.ref rb), .val (.int (i + (1 : Int32))), .val (.int (97 : Int32)), .unset, .unset]) rfl (pc' := 40) rfl ?_
    refine own_iloadN X hx (hb hby od_prog_191_method_1_40) rfl (pc' := 41) rfl ?_
    refine own_bipush X hx (hb hby od_prog_191_method_1_41) (z := (13 : Int32)) (by decide) (pc' := 43) rfl ?_
    refine own_icmpF X hx (hb hby od_prog_191_method_1_43) (by decide) (pc' := 46) rfl ?_
    refine own_iloadN X hx (hb hby od_prog_191_method_1_46) rfl (pc' := 47) rfl ?_
    refine own_bipush X hx (hb hby od_prog_191_method_1_47) (z := (92 : Int32)) (by decide) (pc' := 49) rfl ?_
    refine own_icmpT X hx (hb hby od_prog_191_method_1_49) (by decide) (by decide) (pc' := 151) rfl ?_
    refine own_goto X hx (hb hby od_prog_191_method_1_151) (by decide) (pc' := 27) rfl ?_
    exact k _ _ _ gl LL (97 : Int32) X eT N0 (Keep.refl _ _) (own_invno I0 c2) P1 P2 P3 P4 P5 P6
end Own_own_turn0
section Own_own_turn1
variable {p : Program} {l : Launch} {e : Env} {R : Room} {s : State} {m : MethodId} {args : Array Value} {below : List Frame} {meth : Method} {c : Code} {T : State} {locs : List Loc} {cells slots : Nat} {Z : State} {a0 : Array Value} {h : Heap} {Q : Option Value → Heap → List Loc → Prop} {P : State → Outcome → Prop} {ce sl : Nat} {pc pc' : Nat} {Ls : Array Slot} {st : List Value}
set_option maxRecDepth 65536 in
set_option maxHeartbeats 40000000 in
theorem own_turn1 (hw : ∀ d ∈ tables_1, d.before a0 Z = true) (X : Stand p l e ({ frames := 1, cells := 2, slots := 72, locals := 13 } : Room) s m args below meth c T locs (0 + 1 + 1) (0 + 8 + 64)) (hx : p.tables.exec = Jvm.exec) (hby : c.code = prog_191_method_1_code) (hml : c.maxLocals = 6) (hown : s.vm.findClass "com/example/structlane/structlane/header/SourceText$Joins" = some m.cls) (hZ : Z.Warmed39 s.vm) (eT : T.heap = h) (n0 : Nat) (N0 : Fr n0 locs) (Z0 : n0 ≤ h.size) (rj rb rl : Addr) (gb gl : Nat → Int32) (LL i c3 : Int32) (w0 : Value) (n : Nat) (hi : i.toInt = n) (hn : n < 6) (hB6 : ∀ j : Nat, j < 6 → gb j = (10 : Int32) ∨ gb j = (97 : Int32)) (I0 : own_inv gb n gl LL) (P0 : Exa Z h rj "com/example/structlane/structlane/header/SourceText$Joins") (P1 : Fld Z h rj "com/example/structlane/structlane/header/SourceText$Joins" "changes" "[I" (w0)) (P2 : Fld Z h rj "com/example/structlane/structlane/header/SourceText$Joins" "lineStarts" "[I" (.ref rl)) (P3 : Fld Z h rj "com/example/structlane/structlane/header/SourceText$Joins" "lines" "I" (.int LL)) (P4 : Fld Z h rj "com/example/structlane/structlane/header/SourceText$Joins" "count" "I" (.int (0 : Int32))) (P5 : Fld Z h rj "com/example/structlane/structlane/header/SourceText$Joins" "deleted" "I" (.int (0 : Int32))) (P6 : own_AI Z h rl .int (64 : Int32) gl) (P7 : own_AI Z h rb .byte (6 : Int32) gb) (g_rj : n0 ≤ rj) (g_rl : n0 ≤ rl) (ne1 : rj ≠ rl) (ne2 : rj ≠ rb) (ne3 : rl ≠ rb)
    (k : ∀ (T' : State) (h' : Heap) (lc' : List Loc) (g' : Nat → Int32) (L' c' : Int32), Stand p l e ({ frames := 1, cells := 2, slots := 72, locals := 13 } : Room) s m args below meth c T' lc' (0 + 1 + 1) (0 + 8 + 64) → T'.heap = h' → Fr n0 lc' → Keep h h' [rj, rl] → own_inv gb (n + 1) g' L' → Fld Z h' rj "com/example/structlane/structlane/header/SourceText$Joins" "changes" "[I" (w0) → Fld Z h' rj "com/example/structlane/structlane/header/SourceText$Joins" "lineStarts" "[I" (.ref rl) → Fld Z h' rj "com/example/structlane/structlane/header/SourceText$Joins" "lines" "I" (.int L') → Fld Z h' rj "com/example/structlane/structlane/header/SourceText$Joins" "count" "I" (.int (0 : Int32)) → Fld Z h' rj "com/example/structlane/structlane/header/SourceText$Joins" "deleted" "I" (.int (0 : Int32)) → own_AI Z h' rl .int (64 : Int32) g' → own_G p e below P (T'.setTop (mkF m 27 #[.val (.ref rj), .val (.ref rb), .val (.int (i + (1 : Int32))), .val (.int c'), .unset, .unset] []))) : own_G p e below P (T.setTop (mkF m 27 #[.val (.ref rj), .val (.ref rb), .val (.int i), .val (.int c3), .unset, .unset] [])) := by
  have hi0 : ¬ i < 0 := by simp only [Int32.lt_iff_toInt_lt, Int32.reduceToInt]; omega
  have hi6 : i < (6 : Int32) := by simp only [Int32.lt_iff_toInt_lt, Int32.reduceToInt]; omega
  have hidx : i.toNatClampNeg = n := by show i.toInt.toNat = n; omega
  have hx1 : ((i + (1 : Int32)) - (0 : Int32)).toInt = n + 1 := by
    have q1 := c_iadd i 1
    have q2 := rng32 (i + 1)
    have q3 := c_isub (i + 1) 0
    have q4 := rng32 ((i + 1) - 0)
    simp only [Int32.reduceToInt] at q1 q3
    omega
  refine own_iloadN X hx (hb hby od_prog_191_method_1_27) rfl (pc' := 28) rfl ?_
  refine own_aloadN X hx (hb hby od_prog_191_method_1_28) rfl rfl (pc' := 29) rfl ?_
  refine own_lenI X hx hZ eT P7 (hb hby od_prog_191_method_1_29) (pc' := 30) rfl ?_
  refine own_icmpF X hx (hb hby od_prog_191_method_1_30) (tlt hi6).2.1 (pc' := 33) rfl ?_
  refine own_aloadN X hx (hb hby od_prog_191_method_1_33) rfl rfl (pc' := 34) rfl ?_
  refine own_iloadN X hx (hb hby od_prog_191_method_1_34) rfl (pc' := 35) rfl ?_
  refine own_iinc X hx (hb hby od_prog_191_method_1_35) rfl (z := (1 : Int32)) rfl (l' := #[.val (.ref rj), .val (.ref rb), .val (.int (i + (1 : Int32))), .val (.int c3), .unset, .unset]) rfl (pc' := 38) rfl ?_
  refine own_baload X hx hZ eT P7 (x := (gb i.toNatClampNeg)) ⟨hi0, hi6⟩ rfl (hb hby od_prog_191_method_1_38) (pc' := 39) rfl ?_
  rw [hidx]
  rcases hB6 n hn with c1 | c2
  · rw [c1]
    refine own_istoreN X hx (hb hby od_prog_191_method_1_39) (l' := #[.val (.ref rj), .val (.ref rb), .val (.int (i + (1 : Int32))), .val (.int (10 : Int32)), .unset, .unset]) rfl (pc' := 40) rfl ?_
    refine own_iloadN X hx (hb hby od_prog_191_method_1_40) rfl (pc' := 41) rfl ?_
    refine own_bipush X hx (hb hby od_prog_191_method_1_41) (z := (13 : Int32)) (by decide) (pc' := 43) rfl ?_
    refine own_icmpT X hx (hb hby od_prog_191_method_1_43) (by decide) (by decide) (pc' := 52) rfl ?_
    refine own_iloadN X hx (hb hby od_prog_191_method_1_52) rfl (pc' := 53) rfl ?_
    refine own_bipush X hx (hb hby od_prog_191_method_1_53) (z := (10 : Int32)) (by decide) (pc' := 55) rfl ?_
    refine own_icmpF X hx (hb hby od_prog_191_method_1_55) (by decide) (pc' := 58) rfl ?_
    refine own_aloadN X hx (hb hby od_prog_191_method_1_58) rfl rfl (pc' := 59) rfl ?_
    refine own_iloadN X hx (hb hby od_prog_191_method_1_59) rfl (pc' := 60) rfl ?_
    refine own_aloadN X hx (hb hby od_prog_191_method_1_60) rfl rfl (pc' := 61) rfl ?_
    refine own_getF X hx hZ hown (ow_64 hw) eT P5 (hb hby od_prog_191_method_1_61) (pc' := 64) rfl ?_
    intro T3 X3 e3
    refine own_isub X3 hx (hb hby od_prog_191_method_1_64) (pc' := 65) rfl ?_
    refine own_callP X3 hx hZ hown (ow_66 hw) (ow_67 hw) (ow_68 hw) (ow_21 hw) (ow_22 hw) (ow_69 hw) (by decide) P0 (rm_sl l Z a0 hw rj ((i + (1 : Int32)) - (0 : Int32)) rl LL gl w0 h n0 Z0 P0 P1 P2 P3 P4 P5 P6 g_rj g_rl ne1 (by have q := own_invL I0 (by omega); omega)) e3 (W := 0) (by decide) (by decide) opd__I_V rfl (rest := []) rfl (hb hby od_prog_191_method_1_65) (Nat.le_of_eq rfl) (by rw [hml]; rfl) (by decide) (by decide) (pc' := 68) rfl ?_
    intro v4 T4 L4 X4 q4
    obtain ⟨rfl, Nq4, K4, p4_0, p4_1, p4_2, p4_3, p4_4, p4_5⟩ := q4
    have N4 := Fr.app N0 Nq4
    show own_G p e below _ (T4.setTop (mkF m 68 #[.val (.ref rj), .val (.ref rb), .val (.int (i + (1 : Int32))), .val (.int (10 : Int32)), .unset, .unset] []))
    refine own_goto X4 hx (hb hby od_prog_191_method_1_68) (by decide) (pc' := 151) rfl ?_
    refine own_goto X4 hx (hb hby od_prog_191_method_1_151) (by decide) (pc' := 27) rfl ?_
    exact k _ _ _ (fun zi => if zi = LL.toNatClampNeg then ((i + (1 : Int32)) - (0 : Int32)) else gl zi) (LL + (1 : Int32)) (10 : Int32) X4 rfl N4 K4 (own_invnl I0 c1 hn hx1) p4_0 p4_1 p4_2 p4_3 p4_4 p4_5
  · rw [c2]
    refine own_istoreN X hx (hb hby od_prog_191_method_1_39) (l' := #[.val (.ref rj), .val (.ref rb), .val (.int (i + (1 : Int32))), .val (.int (97 : Int32)), .unset, .unset]) rfl (pc' := 40) rfl ?_
    refine own_iloadN X hx (hb hby od_prog_191_method_1_40) rfl (pc' := 41) rfl ?_
    refine own_bipush X hx (hb hby od_prog_191_method_1_41) (z := (13 : Int32)) (by decide) (pc' := 43) rfl ?_
    refine own_icmpF X hx (hb hby od_prog_191_method_1_43) (by decide) (pc' := 46) rfl ?_
    refine own_iloadN X hx (hb hby od_prog_191_method_1_46) rfl (pc' := 47) rfl ?_
    refine own_bipush X hx (hb hby od_prog_191_method_1_47) (z := (92 : Int32)) (by decide) (pc' := 49) rfl ?_
    refine own_icmpT X hx (hb hby od_prog_191_method_1_49) (by decide) (by decide) (pc' := 151) rfl ?_
    refine own_goto X hx (hb hby od_prog_191_method_1_151) (by decide) (pc' := 27) rfl ?_
    exact k _ _ _ gl LL (97 : Int32) X eT N0 (Keep.refl _ _) (own_invno I0 c2) P1 P2 P3 P4 P5 P6
end Own_own_turn1
theorem od_prog_191_method_1_0 : decode prog_191_method_1_code 0 = .ok (.aload_n 0, 1) := by decide +kernel
theorem od_prog_191_method_1_1 : decode prog_191_method_1_code 1 = .ok (.invokespecial 1, 3) := by decide +kernel
theorem ow_26 {Z : State} {a0 : Array Value} (hw : ∀ d ∈ tables_1, d.before a0 Z = true) : (Jvm.Cond.methodLink "com/example/structlane/structlane/header/SourceText$Joins" (1 : Nat) ({ cls := "java/lang/Object", name := "<init>", desc := "()V" } : Jvm.MethodName)).before a0 Z = true := hw _ (List.mem_of_getElem? (i := 26) rfl)
theorem ow_16 {Z : State} {a0 : Array Value} (hw : ∀ d ∈ tables_1, d.before a0 Z = true) : (Jvm.Cond.instanceMethod ({ cls := "java/lang/Object", name := "<init>", desc := "()V" } : Jvm.MethodName)).before a0 Z = true := hw _ (List.mem_of_getElem? (i := 16) rfl)
theorem ow_17 {Z : State} {a0 : Array Value} (hw : ∀ d ∈ tables_1, d.before a0 Z = true) : (Jvm.Cond.code ({ cls := "java/lang/Object", name := "<init>", desc := "()V" } : Jvm.MethodName) object_method_1_code (1 : Nat) (Option.none : Option Jvm.ClassFile.FieldType)).before a0 Z = true := hw _ (List.mem_of_getElem? (i := 17) rfl)
theorem od_prog_191_method_1_4 : decode prog_191_method_1_code 4 = .ok (.aload_n 0, 1) := by decide +kernel
theorem od_prog_191_method_1_5 : decode prog_191_method_1_code 5 = .ok (.bipush 8, 2) := by decide +kernel
theorem od_prog_191_method_1_7 : decode prog_191_method_1_code 7 = .ok (.newarray .int, 2) := by decide +kernel
theorem ow_27 {Z : State} {a0 : Array Value} (hw : ∀ d ∈ tables_1, d.before a0 Z = true) : (Jvm.Cond.arrayClass Jvm.ClassFile.FieldType.int).before a0 Z = true := hw _ (List.mem_of_getElem? (i := 27) rfl)
theorem od_prog_191_method_1_9 : decode prog_191_method_1_code 9 = .ok (.putfield 7, 3) := by decide +kernel
theorem ow_28 {Z : State} {a0 : Array Value} (hw : ∀ d ∈ tables_1, d.before a0 Z = true) : (Jvm.Cond.fieldLink "com/example/structlane/structlane/header/SourceText$Joins" (7 : Nat) "com/example/structlane/structlane/header/SourceText$Joins" "changes" "[I").before a0 Z = true := hw _ (List.mem_of_getElem? (i := 28) rfl)
theorem od_prog_191_method_1_12 : decode prog_191_method_1_code 12 = .ok (.aload_n 0, 1) := by decide +kernel
theorem od_prog_191_method_1_13 : decode prog_191_method_1_code 13 = .ok (.bipush 64, 2) := by decide +kernel
theorem od_prog_191_method_1_15 : decode prog_191_method_1_code 15 = .ok (.newarray .int, 2) := by decide +kernel
theorem od_prog_191_method_1_17 : decode prog_191_method_1_code 17 = .ok (.putfield 13, 3) := by decide +kernel
theorem osn_4 {Z : State} {a0 : Array Value} (hw : ∀ d ∈ tables_1, d.before a0 Z = true) : RoadKit.slotOf Z "com/example/structlane/structlane/header/SourceText$Joins" "lineStarts" "[I" ≠ RoadKit.slotOf Z "com/example/structlane/structlane/header/SourceText$Joins" "changes" "[I" := slot_ne (C := "com/example/structlane/structlane/header/SourceText$Joins") (Or.inl (ow_31 hw)) (Or.inl (ow_29 hw)) (by decide) (t := (.array .int)) (t' := (.array .int)) (by decide) (by decide)
theorem od_prog_191_method_1_20 : decode prog_191_method_1_code 20 = .ok (.aload_n 0, 1) := by decide +kernel
theorem od_prog_191_method_1_21 : decode prog_191_method_1_code 21 = .ok (.iconst 1, 1) := by decide +kernel
theorem od_prog_191_method_1_22 : decode prog_191_method_1_code 22 = .ok (.putfield 16, 3) := by decide +kernel
theorem osn_5 {Z : State} {a0 : Array Value} (hw : ∀ d ∈ tables_1, d.before a0 Z = true) : RoadKit.slotOf Z "com/example/structlane/structlane/header/SourceText$Joins" "lines" "I" ≠ RoadKit.slotOf Z "com/example/structlane/structlane/header/SourceText$Joins" "changes" "[I" := slot_ne (C := "com/example/structlane/structlane/header/SourceText$Joins") (Or.inl (ow_33 hw)) (Or.inl (ow_29 hw)) (by decide) (t := .int) (t' := (.array .int)) (by decide) (by decide)
theorem osn_6 {Z : State} {a0 : Array Value} (hw : ∀ d ∈ tables_1, d.before a0 Z = true) : RoadKit.slotOf Z "com/example/structlane/structlane/header/SourceText$Joins" "lines" "I" ≠ RoadKit.slotOf Z "com/example/structlane/structlane/header/SourceText$Joins" "lineStarts" "[I" := slot_ne (C := "com/example/structlane/structlane/header/SourceText$Joins") (Or.inl (ow_33 hw)) (Or.inl (ow_31 hw)) (by decide) (t := .int) (t' := (.array .int)) (by decide) (by decide)
theorem od_prog_191_method_1_25 : decode prog_191_method_1_code 25 = .ok (.iconst 0, 1) := by decide +kernel
theorem od_prog_191_method_1_26 : decode prog_191_method_1_code 26 = .ok (.istore_n 2, 1) := by decide +kernel
theorem osn_7 {Z : State} {a0 : Array Value} (hw : ∀ d ∈ tables_1, d.before a0 Z = true) : RoadKit.slotOf Z "com/example/structlane/structlane/header/SourceText$Joins" "changes" "[I" ≠ RoadKit.slotOf Z "com/example/structlane/structlane/header/SourceText$Joins" "lineStarts" "[I" := slot_ne (C := "com/example/structlane/structlane/header/SourceText$Joins") (Or.inl (ow_29 hw)) (Or.inl (ow_31 hw)) (by decide) (t := (.array .int)) (t' := (.array .int)) (by decide) (by decide)
theorem osn_8 {Z : State} {a0 : Array Value} (hw : ∀ d ∈ tables_1, d.before a0 Z = true) : RoadKit.slotOf Z "com/example/structlane/structlane/header/SourceText$Joins" "count" "I" ≠ RoadKit.slotOf Z "com/example/structlane/structlane/header/SourceText$Joins" "changes" "[I" := slot_ne (C := "com/example/structlane/structlane/header/SourceText$Joins") (Or.inl (ow_40 hw)) (Or.inl (ow_29 hw)) (by decide) (t := .int) (t' := (.array .int)) (by decide) (by decide)
theorem osn_9 {Z : State} {a0 : Array Value} (hw : ∀ d ∈ tables_1, d.before a0 Z = true) : RoadKit.slotOf Z "com/example/structlane/structlane/header/SourceText$Joins" "count" "I" ≠ RoadKit.slotOf Z "com/example/structlane/structlane/header/SourceText$Joins" "lineStarts" "[I" := slot_ne (C := "com/example/structlane/structlane/header/SourceText$Joins") (Or.inl (ow_40 hw)) (Or.inl (ow_31 hw)) (by decide) (t := .int) (t' := (.array .int)) (by decide) (by decide)
theorem osn_10 {Z : State} {a0 : Array Value} (hw : ∀ d ∈ tables_1, d.before a0 Z = true) : RoadKit.slotOf Z "com/example/structlane/structlane/header/SourceText$Joins" "deleted" "I" ≠ RoadKit.slotOf Z "com/example/structlane/structlane/header/SourceText$Joins" "changes" "[I" := slot_ne (C := "com/example/structlane/structlane/header/SourceText$Joins") (Or.inl (ow_65 hw)) (Or.inl (ow_29 hw)) (by decide) (t := .int) (t' := (.array .int)) (by decide) (by decide)
theorem osn_11 {Z : State} {a0 : Array Value} (hw : ∀ d ∈ tables_1, d.before a0 Z = true) : RoadKit.slotOf Z "com/example/structlane/structlane/header/SourceText$Joins" "deleted" "I" ≠ RoadKit.slotOf Z "com/example/structlane/structlane/header/SourceText$Joins" "lineStarts" "[I" := slot_ne (C := "com/example/structlane/structlane/header/SourceText$Joins") (Or.inl (ow_65 hw)) (Or.inl (ow_31 hw)) (by decide) (t := .int) (t' := (.array .int)) (by decide) (by decide)
theorem od_prog_191_method_1_154 : decode prog_191_method_1_code 154 = .ok (.return_, 1) := by decide +kernel
theorem oef_rm_joins (m : MethodId) (rj : Addr) (rb : Addr) : entryFrame m #[(.ref rj), (.ref rb)] 6 = mkF m 0 #[.val (.ref rj), .val (.ref rb), .unset, .unset, .unset, .unset] [] := by first | (simp [entryFrame, mkF, argsToLocals, Value.category]; done) | rfl
set_option maxRecDepth 65536 in
set_option maxHeartbeats 40000000 in
theorem rm_joins (l : Launch) (Z : State) (a0 : Array Value) (hw : ∀ d ∈ tables_1, d.before a0 Z = true) (rj : Addr) (rb : Addr) (gb : Nat → Int32) (w0 : Value) (w1 : Value) (w2 : Value) (h0 : Heap) (n0 : Nat) (Z0 : n0 ≤ h0.size) (P0 : Exa Z h0 rj "com/example/structlane/structlane/header/SourceText$Joins") (P1 : Fld Z h0 rj "com/example/structlane/structlane/header/SourceText$Joins" "changes" "[I" (w0)) (P2 : Fld Z h0 rj "com/example/structlane/structlane/header/SourceText$Joins" "lineStarts" "[I" (w1)) (P3 : Fld Z h0 rj "com/example/structlane/structlane/header/SourceText$Joins" "lines" "I" (w2)) (P4 : Fld Z h0 rj "com/example/structlane/structlane/header/SourceText$Joins" "count" "I" (.int (0 : Int32))) (P5 : Fld Z h0 rj "com/example/structlane/structlane/header/SourceText$Joins" "deleted" "I" (.int (0 : Int32))) (P6 : own_AI Z h0 rb .byte (6 : Int32) gb) (g_rj : n0 ≤ rj) (ne_rj_rb : rj ≠ rb) (hB6 : ∀ j : Nat, j < 6 → gb j = (10 : Int32) ∨ gb j = (97 : Int32)) :
    own_M l Z (⟨"com/example/structlane/structlane/header/SourceText$Joins", "<init>", "([B)V"⟩ : MethodName) prog_191_method_1_code 6 none [] ({ frames := 1, cells := 2, slots := 72, locals := 13 } : Room) #[(.ref rj), (.ref rb)] h0 (fun v h L => ∃ gl : Nat → Int32, ∃ LL : Int32, ∃ rl : Addr, v = none ∧ Fr n0 L ∧ (Keep h0 h [rj]) ∧ (h0.size ≤ rl) ∧ (Fld Z h rj "com/example/structlane/structlane/header/SourceText$Joins" "lineStarts" "[I" (.ref rl)) ∧ (Fld Z h rj "com/example/structlane/structlane/header/SourceText$Joins" "lines" "I" (.int LL)) ∧ (Fld Z h rj "com/example/structlane/structlane/header/SourceText$Joins" "count" "I" (.int (0 : Int32))) ∧ (own_AI Z h rl .int (64 : Int32) gl) ∧ (own_inv gb 6 gl LL)) 2 72 := by
  refine own_body (plainFor_of_name opn_com_example_structlane_structlane_header_SourceText_Joins) ?_
  intro p e s m below meth c s1 hx hby hml hown hnm hret hlk hZ X0 e0
  rw [oef_rm_joins m rj rb]
  have N0 := Fr.nil n0
  refine own_aloadN X0 hx (hb hby od_prog_191_method_1_0) rfl rfl (pc' := 1) rfl ?_
  refine own_initO X0 hx hZ hown (ow_26 hw) (ow_16 hw) (ow_17 hw) e0 (by rw [hml]; rfl) (hb hby od_prog_191_method_1_1) (by decide) (W := 0) (Nat.le_of_eq rfl) (by decide) (pc' := 4) rfl ?_
  intro T1 X1 e1
  refine own_aloadN X1 hx (hb hby od_prog_191_method_1_4) rfl rfl (pc' := 5) rfl ?_
  refine own_bipush X1 hx (hb hby od_prog_191_method_1_5) (z := (8 : Int32)) (by decide) (pc' := 7) rfl ?_
  refine own_newAI X1 hx hZ (ty := .int) rfl (ow_27 hw) e1 (hb hby od_prog_191_method_1_7) (pc' := 9) rfl (by decide) (cap := 8) (by decide) (by decide) (by decide) (by decide) rfl ?_
  intro T2 h2 a2 g2 X2 e2 E2 A2
  have lt_rb_a2 : rb < a2 := by rw [g2]; exact P6.lt
  have lt_rj_a2 : rj < a2 := by rw [g2]; exact P0.lt
  have ge_a2 : n0 ≤ a2 := by rw [g2]; exact Z0
  have gn_a2 : h0.size ≤ a2 := by rw [g2]; exact (Nat.le_refl _)
  have f3 : Fld Z h2 rj "com/example/structlane/structlane/header/SourceText$Joins" "changes" "[I" (w0) := (P1.ext E2)
  have f4 : Exa Z h2 rj "com/example/structlane/structlane/header/SourceText$Joins" := (P0.ext E2)
  refine own_putF X2 hx hZ hown (ow_28 hw) e2 f3 f4 (Or.inl (ow_29 hw)) (ow_21 hw) (ty := (.array .int)) (by decide) rfl rfl (hb hby od_prog_191_method_1_9) (pc' := 12) rfl ?_
  intro T5 h5 X5 e5 W5
  have N5 := Fr.snoc X5 N0 g_rj
  refine own_aloadN X5 hx (hb hby od_prog_191_method_1_12) rfl rfl (pc' := 13) rfl ?_
  refine own_bipush X5 hx (hb hby od_prog_191_method_1_13) (z := (64 : Int32)) (by decide) (pc' := 15) rfl ?_
  have z7 : n0 ≤ h5.size := (Nat.le_trans (Nat.le_trans Z0 E2.1) (Nat.le_of_eq (Wr.size W5).symm))
  have f8 : own_AI Z h5 a2 .int (8 : Int32) (fun _ => 0) := (A2.other W5 (Nat.ne_of_gt lt_rj_a2))
  have f9 : own_AI Z h5 rb .byte (6 : Int32) gb := ((P6.ext E2).other W5 (Ne.symm ne_rj_rb))
  have f10 : Exa Z h5 rj "com/example/structlane/structlane/header/SourceText$Joins" := (f4.wr W5)
  refine own_newAI X5 hx hZ (ty := .int) rfl (ow_27 hw) e5 (hb hby od_prog_191_method_1_15) (pc' := 17) rfl (by decide) (cap := 64) (by decide) (by decide) (by decide) (by decide) rfl ?_
  intro T6 h6 a6 g6 X6 e6 E6 A6
  have lt_a2_a6 : a2 < a6 := by rw [g6]; exact f8.lt
  have lt_rb_a6 : rb < a6 := by rw [g6]; exact f9.lt
  have lt_rj_a6 : rj < a6 := by rw [g6]; exact f10.lt
  have ge_a6 : n0 ≤ a6 := by rw [g6]; exact z7
  have gn_a6 : h0.size ≤ a6 := by rw [g6]; exact (Nat.le_trans (Nat.le_trans (Nat.le_refl _) E2.1) (Nat.le_of_eq (Wr.size W5).symm))
  have f11 : Fld Z h6 rj "com/example/structlane/structlane/header/SourceText$Joins" "lineStarts" "[I" (w1) := (((P2.ext E2).other W5 (Or.inr (osn_4 hw))).ext E6)
  have f12 : Exa Z h6 rj "com/example/structlane/structlane/header/SourceText$Joins" := (f10.ext E6)
  refine own_putF X6 hx hZ hown (ow_30 hw) e6 f11 f12 (Or.inl (ow_31 hw)) (ow_21 hw) (ty := (.array .int)) (by decide) rfl rfl (hb hby od_prog_191_method_1_17) (pc' := 20) rfl ?_
  intro T13 h13 X13 e13 W13
  have N13 := Fr.snoc X13 N5 g_rj
  refine own_aloadN X13 hx (hb hby od_prog_191_method_1_20) rfl rfl (pc' := 21) rfl ?_
  refine own_iconst X13 hx (hb hby od_prog_191_method_1_21) (z := (1 : Int32)) rfl (pc' := 22) rfl ?_
  have f14 : Fld Z h13 rj "com/example/structlane/structlane/header/SourceText$Joins" "lines" "I" (w2) := ((((P3.ext E2).other W5 (Or.inr (osn_5 hw))).ext E6).other W13 (Or.inr (osn_6 hw)))
  have f15 : Exa Z h13 rj "com/example/structlane/structlane/header/SourceText$Joins" := (f12.wr W13)
  refine own_putF X13 hx hZ hown (ow_32 hw) e13 f14 f15 (Or.inl (ow_33 hw)) (ow_21 hw) (ty := .int) (by decide) rfl rfl (hb hby od_prog_191_method_1_22) (pc' := 25) rfl ?_
  intro T16 h16 X16 e16 W16
  have N16 := Fr.snoc X16 N13 g_rj
  refine own_iconst X16 hx (hb hby od_prog_191_method_1_25) (z := (0 : Int32)) rfl (pc' := 26) rfl ?_
  refine own_istoreN X16 hx (hb hby od_prog_191_method_1_26) (l' := #[.val (.ref rj), .val (.ref rb), .val (.int (0 : Int32)), .unset, .unset, .unset]) rfl (pc' := 27) rfl ?_
  have f17 : Exa Z h16 rj "com/example/structlane/structlane/header/SourceText$Joins" := (f15.wr W16)
  have f18 : Fld Z h16 rj "com/example/structlane/structlane/header/SourceText$Joins" "changes" "[I" (.ref a2) := ((((f3.same W5).ext E6).other W13 (Or.inr (osn_7 hw))).other W16 (Or.inr (osn_0 hw)))
  have f19 : Fld Z h16 rj "com/example/structlane/structlane/header/SourceText$Joins" "lineStarts" "[I" (.ref a6) := ((f11.same W13).other W16 (Or.inr (osn_1 hw)))
  have f20 : Fld Z h16 rj "com/example/structlane/structlane/header/SourceText$Joins" "count" "I" (.int (0 : Int32)) := (((((P4.ext E2).other W5 (Or.inr (osn_8 hw))).ext E6).other W13 (Or.inr (osn_9 hw))).other W16 (Or.inr (osn_2 hw)))
  have f21 : Fld Z h16 rj "com/example/structlane/structlane/header/SourceText$Joins" "deleted" "I" (.int (0 : Int32)) := (((((P5.ext E2).other W5 (Or.inr (osn_10 hw))).ext E6).other W13 (Or.inr (osn_11 hw))).other W16 (Or.inr (osn_3 hw)))
  have f22 : own_AI Z h16 a6 .int (64 : Int32) (fun _ => 0) := ((A6.other W13 (Nat.ne_of_gt lt_rj_a6)).other W16 (Nat.ne_of_gt lt_rj_a6))
  have f23 : own_AI Z h16 rb .byte (6 : Int32) gb := (((f9.ext E6).other W13 (Ne.symm ne_rj_rb)).other W16 (Ne.symm ne_rj_rb))
  have z24 : n0 ≤ h16.size := (Nat.le_trans (Nat.le_trans (Nat.le_trans z7 E6.1) (Nat.le_of_eq (Wr.size W13).symm)) (Nat.le_of_eq (Wr.size W16).symm))
  refine own_turn0 hw X16 hx hby hml hown hZ e16 n0 N16 z24 rj rb a6 gb (fun _ => 0) (1 : Int32) (0 : Int32) (.ref a2) 0 (by decide) (by decide) hB6 (own_inv0 gb) f17 f18 f19 (f14.same W16) f20 f21 f22 f23 g_rj ge_a6 (Nat.ne_of_lt lt_rj_a6) ne_rj_rb (Nat.ne_of_gt lt_rb_a6) ?_
  intro T25 h25 lc25 g25 L25 c25 X25 e25 N25 K25 I25 f25a f25b f25c f25d f25e f25f
  have f26 : Exa Z h25 rj "com/example/structlane/structlane/header/SourceText$Joins" := (f17.keep K25)
  have f27 : own_AI Z h25 rb .byte (6 : Int32) gb := (f23.keep K25 (ninS (Ne.symm ne_rj_rb) (ninS (Nat.ne_of_lt lt_rb_a6) nin0)))
  have z28 : n0 ≤ h25.size := (Nat.le_trans z24 K25.1)
  refine own_turn1 hw X25 hx hby hml hown hZ e25 n0 N25 z28 rj rb a6 gb g25 L25 ((0 : Int32) + (1 : Int32)) c25 (.ref a2) 1 (by decide) (by decide) hB6 I25 f26 f25a f25b f25c f25d f25e f25f f27 g_rj ge_a6 (Nat.ne_of_lt lt_rj_a6) ne_rj_rb (Nat.ne_of_gt lt_rb_a6) ?_
  intro T29 h29 lc29 g29 L29 c29 X29 e29 N29 K29 I29 f29a f29b f29c f29d f29e f29f
  have f30 : Exa Z h29 rj "com/example/structlane/structlane/header/SourceText$Joins" := (f26.keep K29)
  have f31 : own_AI Z h29 rb .byte (6 : Int32) gb := (f27.keep K29 (ninS (Ne.symm ne_rj_rb) (ninS (Nat.ne_of_lt lt_rb_a6) nin0)))
  have z32 : n0 ≤ h29.size := (Nat.le_trans z28 K29.1)
  refine own_turn1 hw X29 hx hby hml hown hZ e29 n0 N29 z32 rj rb a6 gb g29 L29 (((0 : Int32) + (1 : Int32)) + (1 : Int32)) c29 (.ref a2) 2 (by decide) (by decide) hB6 I29 f30 f29a f29b f29c f29d f29e f29f f31 g_rj ge_a6 (Nat.ne_of_lt lt_rj_a6) ne_rj_rb (Nat.ne_of_gt lt_rb_a6) ?_
  intro T33 h33 lc33 g33 L33 c33 X33 e33 N33 K33 I33 f33a f33b f33c f33d f33e f33f
  have f34 : Exa Z h33 rj "com/example/structlane/structlane/header/SourceText$Joins" := (f30.keep K33)
  have f35 : own_AI Z h33 rb .byte (6 : Int32) gb := (f31.keep K33 (ninS (Ne.symm ne_rj_rb) (ninS (Nat.ne_of_lt lt_rb_a6) nin0)))
  have z36 : n0 ≤ h33.size := (Nat.le_trans z32 K33.1)
  refine own_turn1 hw X33 hx hby hml hown hZ e33 n0 N33 z36 rj rb a6 gb g33 L33 ((((0 : Int32) + (1 : Int32)) + (1 : Int32)) + (1 : Int32)) c33 (.ref a2) 3 (by decide) (by decide) hB6 I33 f34 f33a f33b f33c f33d f33e f33f f35 g_rj ge_a6 (Nat.ne_of_lt lt_rj_a6) ne_rj_rb (Nat.ne_of_gt lt_rb_a6) ?_
  intro T37 h37 lc37 g37 L37 c37 X37 e37 N37 K37 I37 f37a f37b f37c f37d f37e f37f
  have f38 : Exa Z h37 rj "com/example/structlane/structlane/header/SourceText$Joins" := (f34.keep K37)
  have f39 : own_AI Z h37 rb .byte (6 : Int32) gb := (f35.keep K37 (ninS (Ne.symm ne_rj_rb) (ninS (Nat.ne_of_lt lt_rb_a6) nin0)))
  have z40 : n0 ≤ h37.size := (Nat.le_trans z36 K37.1)
  refine own_turn1 hw X37 hx hby hml hown hZ e37 n0 N37 z40 rj rb a6 gb g37 L37 (((((0 : Int32) + (1 : Int32)) + (1 : Int32)) + (1 : Int32)) + (1 : Int32)) c37 (.ref a2) 4 (by decide) (by decide) hB6 I37 f38 f37a f37b f37c f37d f37e f37f f39 g_rj ge_a6 (Nat.ne_of_lt lt_rj_a6) ne_rj_rb (Nat.ne_of_gt lt_rb_a6) ?_
  intro T41 h41 lc41 g41 L41 c41 X41 e41 N41 K41 I41 f41a f41b f41c f41d f41e f41f
  have f42 : Exa Z h41 rj "com/example/structlane/structlane/header/SourceText$Joins" := (f38.keep K41)
  have f43 : own_AI Z h41 rb .byte (6 : Int32) gb := (f39.keep K41 (ninS (Ne.symm ne_rj_rb) (ninS (Nat.ne_of_lt lt_rb_a6) nin0)))
  have z44 : n0 ≤ h41.size := (Nat.le_trans z40 K41.1)
  refine own_turn1 hw X41 hx hby hml hown hZ e41 n0 N41 z44 rj rb a6 gb g41 L41 ((((((0 : Int32) + (1 : Int32)) + (1 : Int32)) + (1 : Int32)) + (1 : Int32)) + (1 : Int32)) c41 (.ref a2) 5 (by decide) (by decide) hB6 I41 f42 f41a f41b f41c f41d f41e f41f f43 g_rj ge_a6 (Nat.ne_of_lt lt_rj_a6) ne_rj_rb (Nat.ne_of_gt lt_rb_a6) ?_
  intro T45 h45 lc45 g45 L45 c45 X45 e45 N45 K45 I45 f45a f45b f45c f45d f45e f45f
  refine own_iloadN X45 hx (hb hby od_prog_191_method_1_27) rfl (pc' := 28) rfl ?_
  refine own_aloadN X45 hx (hb hby od_prog_191_method_1_28) rfl rfl (pc' := 29) rfl ?_
  have f46 : own_AI Z h45 rb .byte (6 : Int32) gb := (f43.keep K45 (ninS (Ne.symm ne_rj_rb) (ninS (Nat.ne_of_lt lt_rb_a6) nin0)))
  refine own_lenI X45 hx hZ e45 f46 (hb hby od_prog_191_method_1_29) (pc' := 30) rfl ?_
  refine own_icmpT X45 hx (hb hby od_prog_191_method_1_30) (by decide) (by decide) (pc' := 154) rfl ?_
  have k58 : Keep h0 h45 [rj] := (Keep.trans (Keep.trans (Keep.trans (Keep.trans (Keep.trans (Keep.trans (Keep.wr (Keep.wr (Keep.ext (Keep.wr (Keep.ext (Keep.refl _ _) E2) W5 (Or.inl (List.mem_of_getElem? (i := 0) rfl))) E6) W13 (Or.inl (List.mem_of_getElem? (i := 0) rfl))) W16 (Or.inl (List.mem_of_getElem? (i := 0) rfl))) K25 (allS (Or.inl (List.mem_of_getElem? (i := 0) rfl)) (allS (Or.inr gn_a6) all0))) K29 (allS (Or.inl (List.mem_of_getElem? (i := 0) rfl)) (allS (Or.inr gn_a6) all0))) K33 (allS (Or.inl (List.mem_of_getElem? (i := 0) rfl)) (allS (Or.inr gn_a6) all0))) K37 (allS (Or.inl (List.mem_of_getElem? (i := 0) rfl)) (allS (Or.inr gn_a6) all0))) K41 (allS (Or.inl (List.mem_of_getElem? (i := 0) rfl)) (allS (Or.inr gn_a6) all0))) K45 (allS (Or.inl (List.mem_of_getElem? (i := 0) rfl)) (allS (Or.inr gn_a6) all0)))
  exact own_retV X45 hx hret hlk (hb hby od_prog_191_method_1_154) ⟨g45, L45, a6, rfl, N45, (by rw [e45]; exact k58), gn_a6, (by rw [e45]; exact f45b), (by rw [e45]; exact f45c), (by rw [e45]; exact f45d), (by rw [e45]; exact f45f), I45⟩ (by decide) (by decide)
theorem od_prog_191_method_2_0 : decode prog_191_method_2_code 0 = .ok (.aload_n 1, 1) := by decide +kernel
theorem od_prog_191_method_2_1 : decode prog_191_method_2_code 1 = .ok (.astore_n 2, 1) := by decide +kernel
theorem od_prog_191_method_2_2 : decode prog_191_method_2_code 2 = .ok (.aload_n 0, 1) := by decide +kernel
theorem od_prog_191_method_2_3 : decode prog_191_method_2_code 3 = .ok (.getfield 40, 3) := by decide +kernel
theorem ow_39 {Z : State} {a0 : Array Value} (hw : ∀ d ∈ tables_1, d.before a0 Z = true) : (Jvm.Cond.fieldLink "com/example/structlane/structlane/header/SourceText$Joins" (40 : Nat) "com/example/structlane/structlane/header/SourceText$Joins" "count" "I").before a0 Z = true := hw _ (List.mem_of_getElem? (i := 39) rfl)
theorem od_prog_191_method_2_6 : decode prog_191_method_2_code 6 = .ok (.ifCond .le 109, 3) := by decide +kernel
theorem od_prog_191_method_2_115 : decode prog_191_method_2_code 115 = .ok (.aload_n 2, 1) := by decide +kernel
theorem od_prog_191_method_2_116 : decode prog_191_method_2_code 116 = .ok (.areturn, 1) := by decide +kernel
theorem oef_rm_app (m : MethodId) (rj : Addr) (rb : Addr) : entryFrame m #[(.ref rj), (.ref rb)] 7 = mkF m 0 #[.val (.ref rj), .val (.ref rb), .unset, .unset, .unset, .unset, .unset] [] := by first | (simp [entryFrame, mkF, argsToLocals, Value.category]; done) | rfl
set_option maxRecDepth 65536 in
set_option maxHeartbeats 40000000 in
theorem rm_app (l : Launch) (Z : State) (a0 : Array Value) (hw : ∀ d ∈ tables_1, d.before a0 Z = true) (rj : Addr) (rb : Addr) (h0 : Heap) (n0 : Nat) (Z0 : n0 ≤ h0.size) (P0 : Fld Z h0 rj "com/example/structlane/structlane/header/SourceText$Joins" "count" "I" (.int (0 : Int32))) :
    own_M l Z (⟨"com/example/structlane/structlane/header/SourceText$Joins", "applied", "([B)[B"⟩ : MethodName) prog_191_method_2_code 7 (some (.array .byte)) [] ({ frames := 0, cells := 0, slots := 0, locals := 0 } : Room) #[(.ref rj), (.ref rb)] h0 (fun v h L => v = some (.ref rb) ∧ Fr n0 L ∧ (h = h0)) 0 0 := by
  refine own_body (plainFor_of_name opn_com_example_structlane_structlane_header_SourceText_Joins) ?_
  intro p e s m below meth c s1 hx hby hml hown hnm hret hlk hZ X0 e0
  rw [oef_rm_app m rj rb]
  have N0 := Fr.nil n0
  refine own_aloadN X0 hx (hb hby od_prog_191_method_2_0) rfl rfl (pc' := 1) rfl ?_
  refine own_astoreN X0 hx (hb hby od_prog_191_method_2_1) rfl (l' := #[.val (.ref rj), .val (.ref rb), .val (.ref rb), .unset, .unset, .unset, .unset]) rfl (pc' := 2) rfl ?_
  refine own_aloadN X0 hx (hb hby od_prog_191_method_2_2) rfl rfl (pc' := 3) rfl ?_
  refine own_getF X0 hx hZ hown (ow_39 hw) e0 P0 (hb hby od_prog_191_method_2_3) (pc' := 6) rfl ?_
  intro T1 X1 e1
  refine own_ifT X1 hx (hb hby od_prog_191_method_2_6) (by decide) (by decide) (pc' := 115) rfl ?_
  refine own_aloadN X1 hx (hb hby od_prog_191_method_2_115) rfl rfl (pc' := 116) rfl ?_
  exact own_retA X1 hx hret hlk rfl rfl rfl (hb hby od_prog_191_method_2_116) ⟨rfl, N0, e1⟩ (by decide) (by decide)
theorem od_prog_190_method_4_0 : decode prog_190_method_4_code 0 = .ok (.aload_n 0, 1) := by decide +kernel
theorem od_prog_190_method_4_1 : decode prog_190_method_4_code 1 = .ok (.invokespecial 14, 3) := by decide +kernel
theorem ow_15 {Z : State} {a0 : Array Value} (hw : ∀ d ∈ tables_1, d.before a0 Z = true) : (Jvm.Cond.methodLink "com/example/structlane/structlane/header/SourceText" (14 : Nat) ({ cls := "java/lang/Object", name := "<init>", desc := "()V" } : Jvm.MethodName)).before a0 Z = true := hw _ (List.mem_of_getElem? (i := 15) rfl)
theorem od_prog_190_method_4_4 : decode prog_190_method_4_code 4 = .ok (.aload_n 0, 1) := by decide +kernel
theorem od_prog_190_method_4_5 : decode prog_190_method_4_code 5 = .ok (.iload_n 3, 1) := by decide +kernel
theorem od_prog_190_method_4_6 : decode prog_190_method_4_code 6 = .ok (.putfield 19, 3) := by decide +kernel
theorem ow_18 {Z : State} {a0 : Array Value} (hw : ∀ d ∈ tables_1, d.before a0 Z = true) : (Jvm.Cond.fieldLink "com/example/structlane/structlane/header/SourceText" (19 : Nat) "com/example/structlane/structlane/header/SourceText" "firstLine" "I").before a0 Z = true := hw _ (List.mem_of_getElem? (i := 18) rfl)
theorem ow_19 {Z : State} {a0 : Array Value} (hw : ∀ d ∈ tables_1, d.before a0 Z = true) : (Jvm.Cond.laysFinal "com/example/structlane/structlane/header/SourceText" "com/example/structlane/structlane/header/SourceText" "firstLine" "I").before a0 Z = true := hw _ (List.mem_of_getElem? (i := 19) rfl)
theorem ow_7 {Z : State} {a0 : Array Value} (hw : ∀ d ∈ tables_1, d.before a0 Z = true) : (Jvm.Cond.instantiable "com/example/structlane/structlane/header/SourceText" (6 : Nat)).before a0 Z = true := hw _ (List.mem_of_getElem? (i := 7) rfl)
theorem od_prog_190_method_4_9 : decode prog_190_method_4_code 9 = .ok (.new 23, 3) := by decide +kernel
theorem ow_20 {Z : State} {a0 : Array Value} (hw : ∀ d ∈ tables_1, d.before a0 Z = true) : (Jvm.Cond.classLink "com/example/structlane/structlane/header/SourceText" (23 : Nat) "com/example/structlane/structlane/header/SourceText$Joins").before a0 Z = true := hw _ (List.mem_of_getElem? (i := 20) rfl)
theorem od_prog_190_method_4_12 : decode prog_190_method_4_code 12 = .ok (.dup, 1) := by decide +kernel
theorem od_prog_190_method_4_13 : decode prog_190_method_4_code 13 = .ok (.aload_n 1, 1) := by decide +kernel
theorem od_prog_190_method_4_14 : decode prog_190_method_4_code 14 = .ok (.invokespecial 25, 3) := by decide +kernel
theorem ow_23 {Z : State} {a0 : Array Value} (hw : ∀ d ∈ tables_1, d.before a0 Z = true) : (Jvm.Cond.methodLink "com/example/structlane/structlane/header/SourceText" (25 : Nat) ({ cls := "com/example/structlane/structlane/header/SourceText$Joins", name := "<init>", desc := "([B)V" } : Jvm.MethodName)).before a0 Z = true := hw _ (List.mem_of_getElem? (i := 23) rfl)
theorem opd___B_V : parseMethodDescriptor "([B)V" = some ⟨[(.array .byte)], none⟩ := by decide +kernel
theorem ow_24 {Z : State} {a0 : Array Value} (hw : ∀ d ∈ tables_1, d.before a0 Z = true) : (Jvm.Cond.instanceMethod ({ cls := "com/example/structlane/structlane/header/SourceText$Joins", name := "<init>", desc := "([B)V" } : Jvm.MethodName)).before a0 Z = true := hw _ (List.mem_of_getElem? (i := 24) rfl)
theorem ow_25 {Z : State} {a0 : Array Value} (hw : ∀ d ∈ tables_1, d.before a0 Z = true) : (Jvm.Cond.code ({ cls := "com/example/structlane/structlane/header/SourceText$Joins", name := "<init>", desc := "([B)V" } : Jvm.MethodName) prog_191_method_1_code (6 : Nat) (Option.none : Option Jvm.ClassFile.FieldType)).before a0 Z = true := hw _ (List.mem_of_getElem? (i := 25) rfl)
theorem od_prog_190_method_4_17 : decode prog_190_method_4_code 17 = .ok (.astore 4, 2) := by decide +kernel
theorem od_prog_190_method_4_19 : decode prog_190_method_4_code 19 = .ok (.aload_n 0, 1) := by decide +kernel
theorem od_prog_190_method_4_20 : decode prog_190_method_4_code 20 = .ok (.aload 4, 2) := by decide +kernel
theorem od_prog_190_method_4_22 : decode prog_190_method_4_code 22 = .ok (.aload_n 1, 1) := by decide +kernel
theorem od_prog_190_method_4_23 : decode prog_190_method_4_code 23 = .ok (.invokevirtual 28, 3) := by decide +kernel
theorem ow_34 {Z : State} {a0 : Array Value} (hw : ∀ d ∈ tables_1, d.before a0 Z = true) : (Jvm.Cond.methodLink "com/example/structlane/structlane/header/SourceText" (28 : Nat) ({ cls := "com/example/structlane/structlane/header/SourceText$Joins", name := "applied", desc := "([B)[B" } : Jvm.MethodName)).before a0 Z = true := hw _ (List.mem_of_getElem? (i := 34) rfl)
theorem ow_37 {Z : State} {a0 : Array Value} (hw : ∀ d ∈ tables_1, d.before a0 Z = true) : (Jvm.Cond.selects "com/example/structlane/structlane/header/SourceText$Joins" ({ cls := "com/example/structlane/structlane/header/SourceText$Joins", name := "applied", desc := "([B)[B" } : Jvm.MethodName) ({ cls := "com/example/structlane/structlane/header/SourceText$Joins", name := "applied", desc := "([B)[B" } : Jvm.MethodName)).before a0 Z = true := hw _ (List.mem_of_getElem? (i := 37) rfl)
theorem opd___B__B : parseMethodDescriptor "([B)[B" = some ⟨[(.array .byte)], some (.array .byte)⟩ := by decide +kernel
theorem ow_35 {Z : State} {a0 : Array Value} (hw : ∀ d ∈ tables_1, d.before a0 Z = true) : (Jvm.Cond.declares ({ cls := "com/example/structlane/structlane/header/SourceText$Joins", name := "applied", desc := "([B)[B" } : Jvm.MethodName)).before a0 Z = true := hw _ (List.mem_of_getElem? (i := 35) rfl)
theorem ow_36 {Z : State} {a0 : Array Value} (hw : ∀ d ∈ tables_1, d.before a0 Z = true) : (Jvm.Cond.instanceMethod ({ cls := "com/example/structlane/structlane/header/SourceText$Joins", name := "applied", desc := "([B)[B" } : Jvm.MethodName)).before a0 Z = true := hw _ (List.mem_of_getElem? (i := 36) rfl)
theorem ow_38 {Z : State} {a0 : Array Value} (hw : ∀ d ∈ tables_1, d.before a0 Z = true) : (Jvm.Cond.code ({ cls := "com/example/structlane/structlane/header/SourceText$Joins", name := "applied", desc := "([B)[B" } : Jvm.MethodName) prog_191_method_2_code (7 : Nat) (Option.some (Jvm.ClassFile.FieldType.array Jvm.ClassFile.FieldType.byte))).before a0 Z = true := hw _ (List.mem_of_getElem? (i := 38) rfl)
theorem od_prog_190_method_4_26 : decode prog_190_method_4_code 26 = .ok (.putfield 32, 3) := by decide +kernel
theorem ow_41 {Z : State} {a0 : Array Value} (hw : ∀ d ∈ tables_1, d.before a0 Z = true) : (Jvm.Cond.fieldLink "com/example/structlane/structlane/header/SourceText" (32 : Nat) "com/example/structlane/structlane/header/SourceText" "chars" "[B").before a0 Z = true := hw _ (List.mem_of_getElem? (i := 41) rfl)
theorem ow_42 {Z : State} {a0 : Array Value} (hw : ∀ d ∈ tables_1, d.before a0 Z = true) : (Jvm.Cond.laysFinal "com/example/structlane/structlane/header/SourceText" "com/example/structlane/structlane/header/SourceText" "chars" "[B").before a0 Z = true := hw _ (List.mem_of_getElem? (i := 42) rfl)
theorem osn_12 {Z : State} {a0 : Array Value} (hw : ∀ d ∈ tables_1, d.before a0 Z = true) : RoadKit.slotOf Z "com/example/structlane/structlane/header/SourceText" "chars" "[B" ≠ RoadKit.slotOf Z "com/example/structlane/structlane/header/SourceText" "firstLine" "I" := slot_ne (C := "com/example/structlane/structlane/header/SourceText") (Or.inr (ow_42 hw)) (Or.inr (ow_19 hw)) (by decide) (t := (.array .byte)) (t' := .int) (by decide) (by decide)
theorem od_prog_190_method_4_29 : decode prog_190_method_4_code 29 = .ok (.aload_n 0, 1) := by decide +kernel
theorem od_prog_190_method_4_30 : decode prog_190_method_4_code 30 = .ok (.aload_n 2, 1) := by decide +kernel
theorem od_prog_190_method_4_31 : decode prog_190_method_4_code 31 = .ok (.ifnull 20, 3) := by decide +kernel
theorem od_prog_190_method_4_51 : decode prog_190_method_4_code 51 = .ok (.aconst_null, 1) := by decide +kernel
theorem od_prog_190_method_4_52 : decode prog_190_method_4_code 52 = .ok (.putfield 43, 3) := by decide +kernel
theorem ow_43 {Z : State} {a0 : Array Value} (hw : ∀ d ∈ tables_1, d.before a0 Z = true) : (Jvm.Cond.fieldLink "com/example/structlane/structlane/header/SourceText" (43 : Nat) "com/example/structlane/structlane/header/SourceText" "wide" "Ljava/lang/String;").before a0 Z = true := hw _ (List.mem_of_getElem? (i := 43) rfl)
theorem ow_44 {Z : State} {a0 : Array Value} (hw : ∀ d ∈ tables_1, d.before a0 Z = true) : (Jvm.Cond.laysFinal "com/example/structlane/structlane/header/SourceText" "com/example/structlane/structlane/header/SourceText" "wide" "Ljava/lang/String;").before a0 Z = true := hw _ (List.mem_of_getElem? (i := 44) rfl)
theorem osn_13 {Z : State} {a0 : Array Value} (hw : ∀ d ∈ tables_1, d.before a0 Z = true) : RoadKit.slotOf Z "com/example/structlane/structlane/header/SourceText" "wide" "Ljava/lang/String;" ≠ RoadKit.slotOf Z "com/example/structlane/structlane/header/SourceText" "firstLine" "I" := slot_ne (C := "com/example/structlane/structlane/header/SourceText") (Or.inr (ow_44 hw)) (Or.inr (ow_19 hw)) (by decide) (t := (.object "java/lang/String")) (t' := .int) (by decide) (by decide)
theorem osn_14 {Z : State} {a0 : Array Value} (hw : ∀ d ∈ tables_1, d.before a0 Z = true) : RoadKit.slotOf Z "com/example/structlane/structlane/header/SourceText" "wide" "Ljava/lang/String;" ≠ RoadKit.slotOf Z "com/example/structlane/structlane/header/SourceText" "chars" "[B" := slot_ne (C := "com/example/structlane/structlane/header/SourceText") (Or.inr (ow_44 hw)) (Or.inr (ow_42 hw)) (by decide) (t := (.object "java/lang/String")) (t' := (.array .byte)) (by decide) (by decide)
theorem od_prog_190_method_4_55 : decode prog_190_method_4_code 55 = .ok (.aload_n 0, 1) := by decide +kernel
theorem od_prog_190_method_4_56 : decode prog_190_method_4_code 56 = .ok (.aload 4, 2) := by decide +kernel
theorem od_prog_190_method_4_58 : decode prog_190_method_4_code 58 = .ok (.getfield 47, 3) := by decide +kernel
theorem ow_45 {Z : State} {a0 : Array Value} (hw : ∀ d ∈ tables_1, d.before a0 Z = true) : (Jvm.Cond.fieldRef "com/example/structlane/structlane/header/SourceText" (47 : Nat) "com/example/structlane/structlane/header/SourceText$Joins" "lineStarts" "[I").before a0 Z = true := hw _ (List.mem_of_getElem? (i := 45) rfl)
theorem od_prog_190_method_4_61 : decode prog_190_method_4_code 61 = .ok (.putfield 51, 3) := by decide +kernel
theorem ow_46 {Z : State} {a0 : Array Value} (hw : ∀ d ∈ tables_1, d.before a0 Z = true) : (Jvm.Cond.fieldLink "com/example/structlane/structlane/header/SourceText" (51 : Nat) "com/example/structlane/structlane/header/SourceText" "lineStarts" "[I").before a0 Z = true := hw _ (List.mem_of_getElem? (i := 46) rfl)
theorem ow_47 {Z : State} {a0 : Array Value} (hw : ∀ d ∈ tables_1, d.before a0 Z = true) : (Jvm.Cond.laysFinal "com/example/structlane/structlane/header/SourceText" "com/example/structlane/structlane/header/SourceText" "lineStarts" "[I").before a0 Z = true := hw _ (List.mem_of_getElem? (i := 47) rfl)
theorem osn_15 {Z : State} {a0 : Array Value} (hw : ∀ d ∈ tables_1, d.before a0 Z = true) : RoadKit.slotOf Z "com/example/structlane/structlane/header/SourceText" "lineStarts" "[I" ≠ RoadKit.slotOf Z "com/example/structlane/structlane/header/SourceText" "firstLine" "I" := slot_ne (C := "com/example/structlane/structlane/header/SourceText") (Or.inr (ow_47 hw)) (Or.inr (ow_19 hw)) (by decide) (t := (.array .int)) (t' := .int) (by decide) (by decide)
theorem osn_16 {Z : State} {a0 : Array Value} (hw : ∀ d ∈ tables_1, d.before a0 Z = true) : RoadKit.slotOf Z "com/example/structlane/structlane/header/SourceText" "lineStarts" "[I" ≠ RoadKit.slotOf Z "com/example/structlane/structlane/header/SourceText" "chars" "[B" := slot_ne (C := "com/example/structlane/structlane/header/SourceText") (Or.inr (ow_47 hw)) (Or.inr (ow_42 hw)) (by decide) (t := (.array .int)) (t' := (.array .byte)) (by decide) (by decide)
theorem osn_17 {Z : State} {a0 : Array Value} (hw : ∀ d ∈ tables_1, d.before a0 Z = true) : RoadKit.slotOf Z "com/example/structlane/structlane/header/SourceText" "lineStarts" "[I" ≠ RoadKit.slotOf Z "com/example/structlane/structlane/header/SourceText" "wide" "Ljava/lang/String;" := slot_ne (C := "com/example/structlane/structlane/header/SourceText") (Or.inr (ow_47 hw)) (Or.inr (ow_44 hw)) (by decide) (t := (.array .int)) (t' := (.object "java/lang/String")) (by decide) (by decide)
theorem od_prog_190_method_4_64 : decode prog_190_method_4_code 64 = .ok (.aload_n 0, 1) := by decide +kernel
theorem od_prog_190_method_4_65 : decode prog_190_method_4_code 65 = .ok (.aload 4, 2) := by decide +kernel
theorem od_prog_190_method_4_67 : decode prog_190_method_4_code 67 = .ok (.getfield 52, 3) := by decide +kernel
theorem ow_48 {Z : State} {a0 : Array Value} (hw : ∀ d ∈ tables_1, d.before a0 Z = true) : (Jvm.Cond.fieldRef "com/example/structlane/structlane/header/SourceText" (52 : Nat) "com/example/structlane/structlane/header/SourceText$Joins" "lines" "I").before a0 Z = true := hw _ (List.mem_of_getElem? (i := 48) rfl)
theorem od_prog_190_method_4_70 : decode prog_190_method_4_code 70 = .ok (.putfield 55, 3) := by decide +kernel
theorem ow_49 {Z : State} {a0 : Array Value} (hw : ∀ d ∈ tables_1, d.before a0 Z = true) : (Jvm.Cond.fieldLink "com/example/structlane/structlane/header/SourceText" (55 : Nat) "com/example/structlane/structlane/header/SourceText" "lines" "I").before a0 Z = true := hw _ (List.mem_of_getElem? (i := 49) rfl)
theorem ow_50 {Z : State} {a0 : Array Value} (hw : ∀ d ∈ tables_1, d.before a0 Z = true) : (Jvm.Cond.laysFinal "com/example/structlane/structlane/header/SourceText" "com/example/structlane/structlane/header/SourceText" "lines" "I").before a0 Z = true := hw _ (List.mem_of_getElem? (i := 50) rfl)
theorem osn_18 {Z : State} {a0 : Array Value} (hw : ∀ d ∈ tables_1, d.before a0 Z = true) : RoadKit.slotOf Z "com/example/structlane/structlane/header/SourceText" "lines" "I" ≠ RoadKit.slotOf Z "com/example/structlane/structlane/header/SourceText" "firstLine" "I" := slot_ne (C := "com/example/structlane/structlane/header/SourceText") (Or.inr (ow_50 hw)) (Or.inr (ow_19 hw)) (by decide) (t := .int) (t' := .int) (by decide) (by decide)
theorem osn_19 {Z : State} {a0 : Array Value} (hw : ∀ d ∈ tables_1, d.before a0 Z = true) : RoadKit.slotOf Z "com/example/structlane/structlane/header/SourceText" "lines" "I" ≠ RoadKit.slotOf Z "com/example/structlane/structlane/header/SourceText" "chars" "[B" := slot_ne (C := "com/example/structlane/structlane/header/SourceText") (Or.inr (ow_50 hw)) (Or.inr (ow_42 hw)) (by decide) (t := .int) (t' := (.array .byte)) (by decide) (by decide)
theorem osn_20 {Z : State} {a0 : Array Value} (hw : ∀ d ∈ tables_1, d.before a0 Z = true) : RoadKit.slotOf Z "com/example/structlane/structlane/header/SourceText" "lines" "I" ≠ RoadKit.slotOf Z "com/example/structlane/structlane/header/SourceText" "wide" "Ljava/lang/String;" := slot_ne (C := "com/example/structlane/structlane/header/SourceText") (Or.inr (ow_50 hw)) (Or.inr (ow_44 hw)) (by decide) (t := .int) (t' := (.object "java/lang/String")) (by decide) (by decide)
theorem osn_21 {Z : State} {a0 : Array Value} (hw : ∀ d ∈ tables_1, d.before a0 Z = true) : RoadKit.slotOf Z "com/example/structlane/structlane/header/SourceText" "lines" "I" ≠ RoadKit.slotOf Z "com/example/structlane/structlane/header/SourceText" "lineStarts" "[I" := slot_ne (C := "com/example/structlane/structlane/header/SourceText") (Or.inr (ow_50 hw)) (Or.inr (ow_47 hw)) (by decide) (t := .int) (t' := (.array .int)) (by decide) (by decide)
theorem od_prog_190_method_4_73 : decode prog_190_method_4_code 73 = .ok (.return_, 1) := by decide +kernel
theorem osn_22 {Z : State} {a0 : Array Value} (hw : ∀ d ∈ tables_1, d.before a0 Z = true) : RoadKit.slotOf Z "com/example/structlane/structlane/header/SourceText" "lineStarts" "[I" ≠ RoadKit.slotOf Z "com/example/structlane/structlane/header/SourceText" "lines" "I" := slot_ne (C := "com/example/structlane/structlane/header/SourceText") (Or.inr (ow_47 hw)) (Or.inr (ow_50 hw)) (by decide) (t := (.array .int)) (t' := .int) (by decide) (by decide)
theorem osn_23 {Z : State} {a0 : Array Value} (hw : ∀ d ∈ tables_1, d.before a0 Z = true) : RoadKit.slotOf Z "com/example/structlane/structlane/header/SourceText" "firstLine" "I" ≠ RoadKit.slotOf Z "com/example/structlane/structlane/header/SourceText" "chars" "[B" := slot_ne (C := "com/example/structlane/structlane/header/SourceText") (Or.inr (ow_19 hw)) (Or.inr (ow_42 hw)) (by decide) (t := .int) (t' := (.array .byte)) (by decide) (by decide)
theorem osn_24 {Z : State} {a0 : Array Value} (hw : ∀ d ∈ tables_1, d.before a0 Z = true) : RoadKit.slotOf Z "com/example/structlane/structlane/header/SourceText" "firstLine" "I" ≠ RoadKit.slotOf Z "com/example/structlane/structlane/header/SourceText" "wide" "Ljava/lang/String;" := slot_ne (C := "com/example/structlane/structlane/header/SourceText") (Or.inr (ow_19 hw)) (Or.inr (ow_44 hw)) (by decide) (t := .int) (t' := (.object "java/lang/String")) (by decide) (by decide)
theorem osn_25 {Z : State} {a0 : Array Value} (hw : ∀ d ∈ tables_1, d.before a0 Z = true) : RoadKit.slotOf Z "com/example/structlane/structlane/header/SourceText" "firstLine" "I" ≠ RoadKit.slotOf Z "com/example/structlane/structlane/header/SourceText" "lineStarts" "[I" := slot_ne (C := "com/example/structlane/structlane/header/SourceText") (Or.inr (ow_19 hw)) (Or.inr (ow_47 hw)) (by decide) (t := .int) (t' := (.array .int)) (by decide) (by decide)
theorem osn_26 {Z : State} {a0 : Array Value} (hw : ∀ d ∈ tables_1, d.before a0 Z = true) : RoadKit.slotOf Z "com/example/structlane/structlane/header/SourceText" "firstLine" "I" ≠ RoadKit.slotOf Z "com/example/structlane/structlane/header/SourceText" "lines" "I" := slot_ne (C := "com/example/structlane/structlane/header/SourceText") (Or.inr (ow_19 hw)) (Or.inr (ow_50 hw)) (by decide) (t := .int) (t' := .int) (by decide) (by decide)
theorem ow_57 {Z : State} {a0 : Array Value} (hw : ∀ d ∈ tables_1, d.before a0 Z = true) : (Jvm.Cond.lays "com/example/structlane/structlane/header/SourceText" "com/example/structlane/structlane/header/SourceText" "lastLine" "I").before a0 Z = true := hw _ (List.mem_of_getElem? (i := 57) rfl)
theorem osn_27 {Z : State} {a0 : Array Value} (hw : ∀ d ∈ tables_1, d.before a0 Z = true) : RoadKit.slotOf Z "com/example/structlane/structlane/header/SourceText" "lastLine" "I" ≠ RoadKit.slotOf Z "com/example/structlane/structlane/header/SourceText" "firstLine" "I" := slot_ne (C := "com/example/structlane/structlane/header/SourceText") (Or.inl (ow_57 hw)) (Or.inr (ow_19 hw)) (by decide) (t := .int) (t' := .int) (by decide) (by decide)
theorem osn_28 {Z : State} {a0 : Array Value} (hw : ∀ d ∈ tables_1, d.before a0 Z = true) : RoadKit.slotOf Z "com/example/structlane/structlane/header/SourceText" "lastLine" "I" ≠ RoadKit.slotOf Z "com/example/structlane/structlane/header/SourceText" "chars" "[B" := slot_ne (C := "com/example/structlane/structlane/header/SourceText") (Or.inl (ow_57 hw)) (Or.inr (ow_42 hw)) (by decide) (t := .int) (t' := (.array .byte)) (by decide) (by decide)
theorem osn_29 {Z : State} {a0 : Array Value} (hw : ∀ d ∈ tables_1, d.before a0 Z = true) : RoadKit.slotOf Z "com/example/structlane/structlane/header/SourceText" "lastLine" "I" ≠ RoadKit.slotOf Z "com/example/structlane/structlane/header/SourceText" "wide" "Ljava/lang/String;" := slot_ne (C := "com/example/structlane/structlane/header/SourceText") (Or.inl (ow_57 hw)) (Or.inr (ow_44 hw)) (by decide) (t := .int) (t' := (.object "java/lang/String")) (by decide) (by decide)
theorem osn_30 {Z : State} {a0 : Array Value} (hw : ∀ d ∈ tables_1, d.before a0 Z = true) : RoadKit.slotOf Z "com/example/structlane/structlane/header/SourceText" "lastLine" "I" ≠ RoadKit.slotOf Z "com/example/structlane/structlane/header/SourceText" "lineStarts" "[I" := slot_ne (C := "com/example/structlane/structlane/header/SourceText") (Or.inl (ow_57 hw)) (Or.inr (ow_47 hw)) (by decide) (t := .int) (t' := (.array .int)) (by decide) (by decide)
theorem osn_31 {Z : State} {a0 : Array Value} (hw : ∀ d ∈ tables_1, d.before a0 Z = true) : RoadKit.slotOf Z "com/example/structlane/structlane/header/SourceText" "lastLine" "I" ≠ RoadKit.slotOf Z "com/example/structlane/structlane/header/SourceText" "lines" "I" := slot_ne (C := "com/example/structlane/structlane/header/SourceText") (Or.inl (ow_57 hw)) (Or.inr (ow_50 hw)) (by decide) (t := .int) (t' := .int) (by decide) (by decide)
theorem opn_com_example_structlane_structlane_header_SourceText : plainName "com/example/structlane/structlane/header/SourceText" = true := by first | (simp [plainName, overriddenIn]; done) | decide +kernel
theorem oef_rm_st4 (m : MethodId) (rt : Addr) (rb : Addr) : entryFrame m #[(.ref rt), (.ref rb), (.null), (.int (1 : Int32))] 5 = mkF m 0 #[.val (.ref rt), .val (.ref rb), .val (.null), .val (.int (1 : Int32)), .unset] [] := by first | (simp [entryFrame, mkF, argsToLocals, Value.category]; done) | rfl
set_option maxRecDepth 65536 in
set_option maxHeartbeats 40000000 in
theorem rm_st4 (l : Launch) (Z : State) (a0 : Array Value) (hw : ∀ d ∈ tables_1, d.before a0 Z = true) (rt : Addr) (rb : Addr) (gb : Nat → Int32) (w0 : Value) (w1 : Value) (w2 : Value) (w3 : Value) (w4 : Value) (h0 : Heap) (n0 : Nat) (Z0 : n0 ≤ h0.size) (P0 : Exa Z h0 rt "com/example/structlane/structlane/header/SourceText") (P1 : Fld Z h0 rt "com/example/structlane/structlane/header/SourceText" "chars" "[B" (w0)) (P2 : Fld Z h0 rt "com/example/structlane/structlane/header/SourceText" "wide" "Ljava/lang/String;" (w1)) (P3 : Fld Z h0 rt "com/example/structlane/structlane/header/SourceText" "lineStarts" "[I" (w2)) (P4 : Fld Z h0 rt "com/example/structlane/structlane/header/SourceText" "lines" "I" (w3)) (P5 : Fld Z h0 rt "com/example/structlane/structlane/header/SourceText" "firstLine" "I" (w4)) (P6 : Fld Z h0 rt "com/example/structlane/structlane/header/SourceText" "lastLine" "I" (.int (0 : Int32))) (P7 : own_AI Z h0 rb .byte (6 : Int32) gb) (g_rt : n0 ≤ rt) (ne_rt_rb : rt ≠ rb) (hB6 : ∀ j : Nat, j < 6 → gb j = (10 : Int32) ∨ gb j = (97 : Int32)) :
    own_M l Z (⟨"com/example/structlane/structlane/header/SourceText", "<init>", "([BLjava/lang/String;I)V"⟩ : MethodName) prog_190_method_4_code 5 none [] ({ frames := 2, cells := 3, slots := 77, locals := 31 } : Room) #[(.ref rt), (.ref rb), (.null), (.int (1 : Int32))] h0 (fun v h L => ∃ gl : Nat → Int32, ∃ LL : Int32, ∃ rl : Addr, v = none ∧ Fr n0 L ∧ (Keep h0 h [rt]) ∧ (h0.size ≤ rl) ∧ (Fld Z h rt "com/example/structlane/structlane/header/SourceText" "lineStarts" "[I" (.ref rl)) ∧ (Fld Z h rt "com/example/structlane/structlane/header/SourceText" "lines" "I" (.int LL)) ∧ (Fld Z h rt "com/example/structlane/structlane/header/SourceText" "firstLine" "I" (.int (1 : Int32))) ∧ (Fld Z h rt "com/example/structlane/structlane/header/SourceText" "lastLine" "I" (.int (0 : Int32))) ∧ (own_AI Z h rl .int (64 : Int32) gl) ∧ (own_inv gb 6 gl LL)) 3 77 := by
  refine own_body (plainFor_of_name opn_com_example_structlane_structlane_header_SourceText) ?_
  intro p e s m below meth c s1 hx hby hml hown hnm hret hlk hZ X0 e0
  rw [oef_rm_st4 m rt rb]
  have N0 := Fr.nil n0
  refine own_aloadN X0 hx (hb hby od_prog_190_method_4_0) rfl rfl (pc' := 1) rfl ?_
  refine own_initO X0 hx hZ hown (ow_15 hw) (ow_16 hw) (ow_17 hw) e0 (by rw [hml]; rfl) (hb hby od_prog_190_method_4_1) (by decide) (W := 0) (Nat.le_of_eq rfl) (by decide) (pc' := 4) rfl ?_
  intro T1 X1 e1
  refine own_aloadN X1 hx (hb hby od_prog_190_method_4_4) rfl rfl (pc' := 5) rfl ?_
  refine own_iloadN X1 hx (hb hby od_prog_190_method_4_5) rfl (pc' := 6) rfl ?_
  refine own_putF X1 hx hZ hown (ow_18 hw) e1 P5 P0 (Or.inr ⟨(ow_19 hw), rfl, hnm⟩) (ow_7 hw) (ty := .int) (by decide) rfl rfl (hb hby od_prog_190_method_4_6) (pc' := 9) rfl ?_
  intro T2 h2 X2 e2 W2
  have N2 := Fr.snoc X2 N0 g_rt
  have z4 : n0 ≤ h2.size := (Nat.le_trans Z0 (Nat.le_of_eq (Wr.size W2).symm))
  have f5 : own_AI Z h2 rb .byte (6 : Int32) gb := (P7.other W2 (Ne.symm ne_rt_rb))
  have f6 : Exa Z h2 rt "com/example/structlane/structlane/header/SourceText" := (P0.wr W2)
  refine own_new X2 hx hZ hown (ow_20 hw) (ow_21 hw) (ow_22 hw) e2 (hb hby od_prog_190_method_4_9) (pc' := 12) rfl (by decide) (by decide) ?_
  intro T3 h3 a3 g3 X3 e3 E3 A3 D3
  have lt_rb_a3 : rb < a3 := by rw [g3]; exact f5.lt
  have lt_rt_a3 : rt < a3 := by rw [g3]; exact f6.lt
  have ge_a3 : n0 ≤ a3 := by rw [g3]; exact z4
  have gn_a3 : h0.size ≤ a3 := by rw [g3]; exact (Nat.le_trans (Nat.le_refl _) (Nat.le_of_eq (Wr.size W2).symm))
  have F3_changes : Fld Z h3 a3 "com/example/structlane/structlane/header/SourceText$Joins" "changes" "[I" (.null) := D3 (Or.inl (ow_29 hw)) (ty := (.array .int)) (by decide)
  have F3_lineStarts : Fld Z h3 a3 "com/example/structlane/structlane/header/SourceText$Joins" "lineStarts" "[I" (.null) := D3 (Or.inl (ow_31 hw)) (ty := (.array .int)) (by decide)
  have F3_lines : Fld Z h3 a3 "com/example/structlane/structlane/header/SourceText$Joins" "lines" "I" (.int (0 : Int32)) := D3 (Or.inl (ow_33 hw)) (ty := .int) (by decide)
  have F3_count : Fld Z h3 a3 "com/example/structlane/structlane/header/SourceText$Joins" "count" "I" (.int (0 : Int32)) := D3 (Or.inl (ow_40 hw)) (ty := .int) (by decide)
  have F3_deleted : Fld Z h3 a3 "com/example/structlane/structlane/header/SourceText$Joins" "deleted" "I" (.int (0 : Int32)) := D3 (Or.inl (ow_65 hw)) (ty := .int) (by decide)
  refine own_dup X3 hx (hb hby od_prog_190_method_4_12) rfl (pc' := 13) rfl ?_
  refine own_aloadN X3 hx (hb hby od_prog_190_method_4_13) rfl rfl (pc' := 14) rfl ?_
  have f8 : own_AI Z h3 rb .byte (6 : Int32) gb := (f5.ext E3)
  have z9 : n0 ≤ h3.size := (Nat.le_trans z4 E3.1)
  refine own_callC X3 hx hZ rfl hown (ow_23 hw) (ow_24 hw) (ow_22 hw) (ow_25 hw) (by decide) (rm_joins l Z a0 hw a3 rb gb .null .null (.int (0 : Int32)) h3 n0 z9 A3 F3_changes F3_lineStarts F3_lines F3_count F3_deleted f8 ge_a3 (Nat.ne_of_gt lt_rb_a3) hB6) e3 (W := 1) (by decide) (by decide) opd___B_V rfl (rest := [(.ref a3)]) rfl (hb hby od_prog_190_method_4_14) (Nat.le_of_eq rfl) (by rw [hml]; rfl) (by decide) (by decide) (pc' := 17) rfl ?_
  intro v7 T7 L7 X7 q7
  have f10 : Exa Z h3 rt "com/example/structlane/structlane/header/SourceText" := (f6.ext E3)
  obtain ⟨gl_7, LL_7, rl_7, rfl, Nq7, K7, gz7_rl_7, p7_0, p7_1, p7_2, p7_3, x7_0⟩ := q7
  have lt_a3_rl_7 : a3 < rl_7 := Nat.lt_of_lt_of_le A3.lt gz7_rl_7
  have lt_rb_rl_7 : rb < rl_7 := Nat.lt_of_lt_of_le f8.lt gz7_rl_7
  have lt_rt_rl_7 : rt < rl_7 := Nat.lt_of_lt_of_le f10.lt gz7_rl_7
  have ge_rl_7 : n0 ≤ rl_7 := Nat.le_trans z9 gz7_rl_7
  have N7 := Fr.app N2 Nq7
  show own_G p e below _ (T7.setTop (mkF m 17 #[.val (.ref rt), .val (.ref rb), .val (.null), .val (.int (1 : Int32)), .unset] [(.ref a3)]))
  refine own_astore X7 hx (hb hby od_prog_190_method_4_17) rfl (l' := #[.val (.ref rt), .val (.ref rb), .val (.null), .val (.int (1 : Int32)), .val (.ref a3)]) rfl (pc' := 19) rfl ?_
  refine own_aloadN X7 hx (hb hby od_prog_190_method_4_19) rfl rfl (pc' := 20) rfl ?_
  refine own_aload X7 hx (hb hby od_prog_190_method_4_20) rfl rfl (pc' := 22) rfl ?_
  refine own_aloadN X7 hx (hb hby od_prog_190_method_4_22) rfl rfl (pc' := 23) rfl ?_
  have z12 : n0 ≤ T7.heap.size := (Nat.le_trans z9 K7.1)
  have f13 : Exa Z T7.heap a3 "com/example/structlane/structlane/header/SourceText$Joins" := (A3.keep K7)
  refine own_callV X7 hx hZ hown (ow_34 hw) (ow_35 hw) (ow_37 hw) (ow_36 hw) (ow_22 hw) (ow_38 hw) (by decide) f13 (rm_app l Z a0 hw a3 rb T7.heap n0 z12 p7_2) rfl (W := 1) (by decide) (by decide) opd___B__B rfl (rest := [(.ref rt)]) rfl (hb hby od_prog_190_method_4_23) (Nat.le_of_eq rfl) (by rw [hml]; rfl) (by decide) (by decide) (pc' := 26) rfl ?_
  intro v11 T11 L11 X11 q11
  obtain ⟨rfl, Nq11, eh11⟩ := q11
  have N11 := Fr.app N7 Nq11
  show own_G p e below _ (T11.setTop (mkF m 26 #[.val (.ref rt), .val (.ref rb), .val (.null), .val (.int (1 : Int32)), .val (.ref a3)] [(.ref rb), (.ref rt)]))
  have f14 : Fld Z T7.heap rt "com/example/structlane/structlane/header/SourceText" "chars" "[B" (w0) := (((P1.other W2 (Or.inr (osn_12 hw))).ext E3).keep K7 (ninS (Nat.ne_of_lt lt_rt_a3) nin0))
  have f15 : Exa Z T7.heap rt "com/example/structlane/structlane/header/SourceText" := (f10.keep K7)
  refine own_putF X11 hx hZ hown (ow_41 hw) eh11 f14 f15 (Or.inr ⟨(ow_42 hw), rfl, hnm⟩) (ow_7 hw) (ty := (.array .byte)) (by decide) rfl rfl (hb hby od_prog_190_method_4_26) (pc' := 29) rfl ?_
  intro T16 h16 X16 e16 W16
  have N16 := Fr.snoc X16 N11 g_rt
  refine own_aloadN X16 hx (hb hby od_prog_190_method_4_29) rfl rfl (pc' := 30) rfl ?_
  refine own_aloadN X16 hx (hb hby od_prog_190_method_4_30) rfl rfl (pc' := 31) rfl ?_
  refine own_ifnullT X16 hx (hb hby od_prog_190_method_4_31) (by decide) (pc' := 51) rfl ?_
  refine own_aconstNull X16 hx (hb hby od_prog_190_method_4_51) (pc' := 52) rfl ?_
  have f17 : Fld Z h16 rt "com/example/structlane/structlane/header/SourceText" "wide" "Ljava/lang/String;" (w1) := ((((P2.other W2 (Or.inr (osn_13 hw))).ext E3).keep K7 (ninS (Nat.ne_of_lt lt_rt_a3) nin0)).other W16 (Or.inr (osn_14 hw)))
  have f18 : Exa Z h16 rt "com/example/structlane/structlane/header/SourceText" := (f15.wr W16)
  refine own_putF X16 hx hZ hown (ow_43 hw) e16 f17 f18 (Or.inr ⟨(ow_44 hw), rfl, hnm⟩) (ow_7 hw) (ty := (.object "java/lang/String")) (by decide) rfl rfl (hb hby od_prog_190_method_4_52) (pc' := 55) rfl ?_
  intro T19 h19 X19 e19 W19
  have N19 := Fr.snoc X19 N16 g_rt
  refine own_aloadN X19 hx (hb hby od_prog_190_method_4_55) rfl rfl (pc' := 56) rfl ?_
  refine own_aload X19 hx (hb hby od_prog_190_method_4_56) rfl rfl (pc' := 58) rfl ?_
  have f20 : Fld Z h19 a3 "com/example/structlane/structlane/header/SourceText$Joins" "lineStarts" "[I" (.ref rl_7) := ((p7_0.other W16 (Or.inl (Nat.ne_of_gt lt_rt_a3))).other W19 (Or.inl (Nat.ne_of_gt lt_rt_a3)))
  refine own_getR X19 hx hZ hown (ow_45 hw) e19 f20 (hb hby od_prog_190_method_4_58) (pc' := 61) rfl ?_
  have f21 : Fld Z h19 rt "com/example/structlane/structlane/header/SourceText" "lineStarts" "[I" (w2) := (((((P3.other W2 (Or.inr (osn_15 hw))).ext E3).keep K7 (ninS (Nat.ne_of_lt lt_rt_a3) nin0)).other W16 (Or.inr (osn_16 hw))).other W19 (Or.inr (osn_17 hw)))
  have f22 : Exa Z h19 rt "com/example/structlane/structlane/header/SourceText" := (f18.wr W19)
  refine own_putF X19 hx hZ hown (ow_46 hw) e19 f21 f22 (Or.inr ⟨(ow_47 hw), rfl, hnm⟩) (ow_7 hw) (ty := (.array .int)) (by decide) rfl rfl (hb hby od_prog_190_method_4_61) (pc' := 64) rfl ?_
  intro T23 h23 X23 e23 W23
  have N23 := Fr.snoc X23 N19 g_rt
  refine own_aloadN X23 hx (hb hby od_prog_190_method_4_64) rfl rfl (pc' := 65) rfl ?_
  refine own_aload X23 hx (hb hby od_prog_190_method_4_65) rfl rfl (pc' := 67) rfl ?_
  have f24 : Fld Z h23 a3 "com/example/structlane/structlane/header/SourceText$Joins" "lines" "I" (.int LL_7) := (((p7_1.other W16 (Or.inl (Nat.ne_of_gt lt_rt_a3))).other W19 (Or.inl (Nat.ne_of_gt lt_rt_a3))).other W23 (Or.inl (Nat.ne_of_gt lt_rt_a3)))
  refine own_getR X23 hx hZ hown (ow_48 hw) e23 f24 (hb hby od_prog_190_method_4_67) (pc' := 70) rfl ?_
  have f25 : Fld Z h23 rt "com/example/structlane/structlane/header/SourceText" "lines" "I" (w3) := ((((((P4.other W2 (Or.inr (osn_18 hw))).ext E3).keep K7 (ninS (Nat.ne_of_lt lt_rt_a3) nin0)).other W16 (Or.inr (osn_19 hw))).other W19 (Or.inr (osn_20 hw))).other W23 (Or.inr (osn_21 hw)))
  have f26 : Exa Z h23 rt "com/example/structlane/structlane/header/SourceText" := (f22.wr W23)
  refine own_putF X23 hx hZ hown (ow_49 hw) e23 f25 f26 (Or.inr ⟨(ow_50 hw), rfl, hnm⟩) (ow_7 hw) (ty := .int) (by decide) rfl rfl (hb hby od_prog_190_method_4_70) (pc' := 73) rfl ?_
  intro T27 h27 X27 e27 W27
  have N27 := Fr.snoc X27 N23 g_rt
  have k35 : Keep h0 h27 [rt] := (Keep.wr (Keep.wr (Keep.wr (Keep.wr (Keep.trans (Keep.ext (Keep.wr (Keep.refl _ _) W2 (Or.inl (List.mem_of_getElem? (i := 0) rfl))) E3) K7 (allS (Or.inr gn_a3) all0)) W16 (Or.inl (List.mem_of_getElem? (i := 0) rfl))) W19 (Or.inl (List.mem_of_getElem? (i := 0) rfl))) W23 (Or.inl (List.mem_of_getElem? (i := 0) rfl))) W27 (Or.inl (List.mem_of_getElem? (i := 0) rfl)))
  have f36 : Fld Z h27 rt "com/example/structlane/structlane/header/SourceText" "lineStarts" "[I" (.ref rl_7) := ((f21.same W23).other W27 (Or.inr (osn_22 hw)))
  have f37 : Fld Z h27 rt "com/example/structlane/structlane/header/SourceText" "firstLine" "I" (.int (1 : Int32)) := (((((((P5.same W2).ext E3).keep K7 (ninS (Nat.ne_of_lt lt_rt_a3) nin0)).other W16 (Or.inr (osn_23 hw))).other W19 (Or.inr (osn_24 hw))).other W23 (Or.inr (osn_25 hw))).other W27 (Or.inr (osn_26 hw)))
  have f38 : Fld Z h27 rt "com/example/structlane/structlane/header/SourceText" "lastLine" "I" (.int (0 : Int32)) := (((((((P6.other W2 (Or.inr (osn_27 hw))).ext E3).keep K7 (ninS (Nat.ne_of_lt lt_rt_a3) nin0)).other W16 (Or.inr (osn_28 hw))).other W19 (Or.inr (osn_29 hw))).other W23 (Or.inr (osn_30 hw))).other W27 (Or.inr (osn_31 hw)))
  have f39 : own_AI Z h27 rl_7 .int (64 : Int32) gl_7 := ((((p7_3.other W16 (Nat.ne_of_gt lt_rt_rl_7)).other W19 (Nat.ne_of_gt lt_rt_rl_7)).other W23 (Nat.ne_of_gt lt_rt_rl_7)).other W27 (Nat.ne_of_gt lt_rt_rl_7))
  exact own_retV X27 hx hret hlk (hb hby od_prog_190_method_4_73) ⟨gl_7, LL_7, rl_7, rfl, N27, (by rw [e27]; exact k35), (Nat.le_trans (Nat.le_trans (Nat.le_trans (Nat.le_refl _) (Nat.le_of_eq (Wr.size W2).symm)) E3.1) gz7_rl_7), (by rw [e27]; exact f36), (by rw [e27]; exact (f25.same W27)), (by rw [e27]; exact f37), (by rw [e27]; exact f38), (by rw [e27]; exact f39), x7_0⟩ (by decide) (by decide)
theorem od_prog_190_method_1_0 : decode prog_190_method_1_code 0 = .ok (.aload_n 0, 1) := by decide +kernel
theorem od_prog_190_method_1_1 : decode prog_190_method_1_code 1 = .ok (.aload_n 1, 1) := by decide +kernel
theorem od_prog_190_method_1_2 : decode prog_190_method_1_code 2 = .ok (.aconst_null, 1) := by decide +kernel
theorem od_prog_190_method_1_3 : decode prog_190_method_1_code 3 = .ok (.iconst 1, 1) := by decide +kernel
theorem od_prog_190_method_1_4 : decode prog_190_method_1_code 4 = .ok (.invokespecial 1, 3) := by decide +kernel
theorem ow_12 {Z : State} {a0 : Array Value} (hw : ∀ d ∈ tables_1, d.before a0 Z = true) : (Jvm.Cond.methodLink "com/example/structlane/structlane/header/SourceText" (1 : Nat) ({ cls := "com/example/structlane/structlane/header/SourceText", name := "<init>", desc := "([BLjava/lang/String;I)V" } : Jvm.MethodName)).before a0 Z = true := hw _ (List.mem_of_getElem? (i := 12) rfl)
theorem opd___BLjava_lang_String_I_V : parseMethodDescriptor "([BLjava/lang/String;I)V" = some ⟨[(.array .byte), (.object "java/lang/String"), .int], none⟩ := by decide +kernel
theorem ow_13 {Z : State} {a0 : Array Value} (hw : ∀ d ∈ tables_1, d.before a0 Z = true) : (Jvm.Cond.instanceMethod ({ cls := "com/example/structlane/structlane/header/SourceText", name := "<init>", desc := "([BLjava/lang/String;I)V" } : Jvm.MethodName)).before a0 Z = true := hw _ (List.mem_of_getElem? (i := 13) rfl)
theorem ow_8 {Z : State} {a0 : Array Value} (hw : ∀ d ∈ tables_1, d.before a0 Z = true) : (Jvm.Cond.initialized "com/example/structlane/structlane/header/SourceText").before a0 Z = true := hw _ (List.mem_of_getElem? (i := 8) rfl)
theorem ow_14 {Z : State} {a0 : Array Value} (hw : ∀ d ∈ tables_1, d.before a0 Z = true) : (Jvm.Cond.code ({ cls := "com/example/structlane/structlane/header/SourceText", name := "<init>", desc := "([BLjava/lang/String;I)V" } : Jvm.MethodName) prog_190_method_4_code (5 : Nat) (Option.none : Option Jvm.ClassFile.FieldType)).before a0 Z = true := hw _ (List.mem_of_getElem? (i := 14) rfl)
theorem od_prog_190_method_1_7 : decode prog_190_method_1_code 7 = .ok (.return_, 1) := by decide +kernel
theorem oef_rm_st1 (m : MethodId) (rt : Addr) (rb : Addr) : entryFrame m #[(.ref rt), (.ref rb)] 2 = mkF m 0 #[.val (.ref rt), .val (.ref rb)] [] := by first | (simp [entryFrame, mkF, argsToLocals, Value.category]; done) | rfl
set_option maxRecDepth 65536 in
set_option maxHeartbeats 40000000 in
theorem rm_st1 (l : Launch) (Z : State) (a0 : Array Value) (hw : ∀ d ∈ tables_1, d.before a0 Z = true) (rt : Addr) (rb : Addr) (gb : Nat → Int32) (w0 : Value) (w1 : Value) (w2 : Value) (w3 : Value) (w4 : Value) (h0 : Heap) (n0 : Nat) (Z0 : n0 ≤ h0.size) (P0 : Exa Z h0 rt "com/example/structlane/structlane/header/SourceText") (P1 : Fld Z h0 rt "com/example/structlane/structlane/header/SourceText" "chars" "[B" (w0)) (P2 : Fld Z h0 rt "com/example/structlane/structlane/header/SourceText" "wide" "Ljava/lang/String;" (w1)) (P3 : Fld Z h0 rt "com/example/structlane/structlane/header/SourceText" "lineStarts" "[I" (w2)) (P4 : Fld Z h0 rt "com/example/structlane/structlane/header/SourceText" "lines" "I" (w3)) (P5 : Fld Z h0 rt "com/example/structlane/structlane/header/SourceText" "firstLine" "I" (w4)) (P6 : Fld Z h0 rt "com/example/structlane/structlane/header/SourceText" "lastLine" "I" (.int (0 : Int32))) (P7 : own_AI Z h0 rb .byte (6 : Int32) gb) (g_rt : n0 ≤ rt) (ne_rt_rb : rt ≠ rb) (hB6 : ∀ j : Nat, j < 6 → gb j = (10 : Int32) ∨ gb j = (97 : Int32)) :
    own_M l Z (⟨"com/example/structlane/structlane/header/SourceText", "<init>", "([B)V"⟩ : MethodName) prog_190_method_1_code 2 none [] ({ frames := 3, cells := 3, slots := 77, locals := 47 } : Room) #[(.ref rt), (.ref rb)] h0 (fun v h L => ∃ gl : Nat → Int32, ∃ LL : Int32, ∃ rl : Addr, v = none ∧ Fr n0 L ∧ (Keep h0 h [rt]) ∧ (h0.size ≤ rl) ∧ (Fld Z h rt "com/example/structlane/structlane/header/SourceText" "lineStarts" "[I" (.ref rl)) ∧ (Fld Z h rt "com/example/structlane/structlane/header/SourceText" "lines" "I" (.int LL)) ∧ (Fld Z h rt "com/example/structlane/structlane/header/SourceText" "firstLine" "I" (.int (1 : Int32))) ∧ (Fld Z h rt "com/example/structlane/structlane/header/SourceText" "lastLine" "I" (.int (0 : Int32))) ∧ (own_AI Z h rl .int (64 : Int32) gl) ∧ (own_inv gb 6 gl LL)) 3 77 := by
  refine own_body (plainFor_of_name opn_com_example_structlane_structlane_header_SourceText) ?_
  intro p e s m below meth c s1 hx hby hml hown hnm hret hlk hZ X0 e0
  rw [oef_rm_st1 m rt rb]
  have N0 := Fr.nil n0
  refine own_aloadN X0 hx (hb hby od_prog_190_method_1_0) rfl rfl (pc' := 1) rfl ?_
  refine own_aloadN X0 hx (hb hby od_prog_190_method_1_1) rfl rfl (pc' := 2) rfl ?_
  refine own_aconstNull X0 hx (hb hby od_prog_190_method_1_2) (pc' := 3) rfl ?_
  refine own_iconst X0 hx (hb hby od_prog_190_method_1_3) (z := (1 : Int32)) rfl (pc' := 4) rfl ?_
  refine own_callC X0 hx hZ rfl hown (ow_12 hw) (ow_13 hw) (ow_8 hw) (ow_14 hw) (by decide) (rm_st4 l Z a0 hw rt rb gb w0 w1 w2 w3 w4 h0 n0 Z0 P0 P1 P2 P3 P4 P5 P6 P7 g_rt ne_rt_rb hB6) e0 (W := 0) (by decide) (by decide) opd___BLjava_lang_String_I_V rfl (rest := []) rfl (hb hby od_prog_190_method_1_4) (Nat.le_of_eq rfl) (by rw [hml]; rfl) (by decide) (by decide) (pc' := 7) rfl ?_
  intro v1 T1 L1 X1 q1
  obtain ⟨gl_1, LL_1, rl_1, rfl, Nq1, K1, gz1_rl_1, p1_0, p1_1, p1_2, p1_3, p1_4, x1_0⟩ := q1
  have lt_rb_rl_1 : rb < rl_1 := Nat.lt_of_lt_of_le P7.lt gz1_rl_1
  have lt_rt_rl_1 : rt < rl_1 := Nat.lt_of_lt_of_le P0.lt gz1_rl_1
  have ge_rl_1 : n0 ≤ rl_1 := Nat.le_trans Z0 gz1_rl_1
  have N1 := Fr.app N0 Nq1
  show own_G p e below _ (T1.setTop (mkF m 7 #[.val (.ref rt), .val (.ref rb)] []))
  have k3 : Keep h0 T1.heap [rt] := (Keep.trans (Keep.refl _ _) K1 (allS (Or.inl (List.mem_of_getElem? (i := 0) rfl)) all0))
  exact own_retV X1 hx hret hlk (hb hby od_prog_190_method_1_7) ⟨gl_1, LL_1, rl_1, rfl, N1, k3, (Nat.le_trans (Nat.le_refl _) gz1_rl_1), p1_0, p1_1, p1_2, p1_3, p1_4, x1_0⟩ (by decide) (by decide)
theorem own_lt {a b : Int32} (h : a < b) : a.toInt < b.toInt := by rwa [Int32.lt_iff_toInt_lt] at h
theorem own_nlt {a b : Int32} (h : ¬ a < b) : b.toInt ≤ a.toInt := by rw [Int32.lt_iff_toInt_lt] at h; omega
theorem own_eqI {a b : Int32} (h : a = b) : a.toInt = b.toInt := by rw [h]
theorem own_neI {a b : Int32} (h : ¬ a = b) : a.toInt ≠ b.toInt := fun q => h (Int32.toInt_inj.mp q)
theorem own_at {gl : Nat → Int32} {LL u0 tt : Int32} (H : ∀ k : Nat, (k : Int) < LL.toInt → ((gl k).toInt ≤ u0.toInt ↔ (k : Int) ≤ tt.toInt)) (J : Int32) (h : 0 ≤ J.toInt ∧ J.toInt < LL.toInt) : ((gl J.toNatClampNeg).toInt ≤ u0.toInt ↔ J.toInt ≤ tt.toInt) := by
  have e := own_tn J h.1
  have q := H J.toNatClampNeg (by omega)
  rw [e] at q
  exact q
theorem own_mid (low high : Int32) (h0 : 0 ≤ low.toInt) (h1 : low.toInt < high.toInt) (h2 : high.toInt ≤ 64) : low.toInt ≤ (((low + high).toUInt32 >>> ((1 : Int32) &&& 31).toUInt32).toInt32).toInt ∧ (((low + high).toUInt32 >>> ((1 : Int32) &&& 31).toUInt32).toInt32).toInt < high.toInt := by
  have q := c_iushr (low + high) 1 1 (by decide) (by decide)
  have q1 := c_iadd low high
  have q2 := rng32 (low + high)
  omega
theorem own_p1 (a : Int32) (h : 0 ≤ a.toInt ∧ a.toInt ≤ 64) : (a + (1 : Int32)).toInt = a.toInt + 1 := by
  have q1 := c_iadd a 1
  have q2 := rng32 (a + 1)
  simp only [Int32.reduceToInt] at q1
  omega
theorem own_p2 (a : Int32) (h : 0 ≤ a.toInt ∧ a.toInt ≤ 64) : (a + (2 : Int32)).toInt = a.toInt + 2 := by
  have q1 := c_iadd a 2
  have q2 := rng32 (a + 2)
  simp only [Int32.reduceToInt] at q1
  omega
theorem own_m1 (a : Int32) : ((a + (1 : Int32)) - (1 : Int32)) = a := by
  have q1 := c_iadd a 1
  have q2 := c_isub (a + 1) 1
  have q3 := rng32 ((a + 1) - 1)
  have q4 := rng32 a
  simp only [Int32.reduceToInt] at q1 q2
  rw [← Int32.toInt_inj]; omega
theorem od_prog_190_method_13_97 : decode prog_190_method_13_code 97 = .ok (.iload 5, 2) := by decide +kernel
theorem od_prog_190_method_13_99 : decode prog_190_method_13_code 99 = .ok (.iload 6, 2) := by decide +kernel
theorem od_prog_190_method_13_101 : decode prog_190_method_13_code 101 = .ok (.if_icmp .ge 39, 3) := by decide +kernel
theorem od_prog_190_method_13_104 : decode prog_190_method_13_code 104 = .ok (.iload 5, 2) := by decide +kernel
theorem od_prog_190_method_13_106 : decode prog_190_method_13_code 106 = .ok (.iload 6, 2) := by decide +kernel
theorem od_prog_190_method_13_108 : decode prog_190_method_13_code 108 = .ok (.iadd, 1) := by decide +kernel
theorem od_prog_190_method_13_109 : decode prog_190_method_13_code 109 = .ok (.iconst 1, 1) := by decide +kernel
theorem od_prog_190_method_13_110 : decode prog_190_method_13_code 110 = .ok (.iushr, 1) := by decide +kernel
theorem od_prog_190_method_13_111 : decode prog_190_method_13_code 111 = .ok (.istore 7, 2) := by decide +kernel
theorem od_prog_190_method_13_113 : decode prog_190_method_13_code 113 = .ok (.aload_n 0, 1) := by decide +kernel
theorem od_prog_190_method_13_114 : decode prog_190_method_13_code 114 = .ok (.getfield 51, 3) := by decide +kernel
theorem od_prog_190_method_13_117 : decode prog_190_method_13_code 117 = .ok (.iload 7, 2) := by decide +kernel
theorem od_prog_190_method_13_119 : decode prog_190_method_13_code 119 = .ok (.iaload, 1) := by decide +kernel
theorem od_prog_190_method_13_120 : decode prog_190_method_13_code 120 = .ok (.iload_n 1, 1) := by decide +kernel
theorem od_prog_190_method_13_121 : decode prog_190_method_13_code 121 = .ok (.if_icmp .gt 12, 3) := by decide +kernel
theorem od_prog_190_method_13_133 : decode prog_190_method_13_code 133 = .ok (.iload 7, 2) := by decide +kernel
theorem od_prog_190_method_13_135 : decode prog_190_method_13_code 135 = .ok (.istore 6, 2) := by decide +kernel
theorem od_prog_190_method_13_137 : decode prog_190_method_13_code 137 = .ok (.goto (-40), 3) := by decide +kernel
theorem od_prog_190_method_13_124 : decode prog_190_method_13_code 124 = .ok (.iload 7, 2) := by decide +kernel
theorem od_prog_190_method_13_126 : decode prog_190_method_13_code 126 = .ok (.iconst 1, 1) := by decide +kernel
theorem od_prog_190_method_13_127 : decode prog_190_method_13_code 127 = .ok (.iadd, 1) := by decide +kernel
theorem od_prog_190_method_13_128 : decode prog_190_method_13_code 128 = .ok (.istore 5, 2) := by decide +kernel
theorem od_prog_190_method_13_130 : decode prog_190_method_13_code 130 = .ok (.goto 7, 3) := by decide +kernel
section OwnBs
variable {p : Program} {l : Launch} {e : Env} {R : Room} {s : State} {m : MethodId} {args : Array Value} {below : List Frame} {meth : Method} {c : Code} {T : State} {locs : List Loc} {cells slots : Nat} {Z : State} {a0 : Array Value} {h : Heap} {Q : Option Value → Heap → List Loc → Prop} {P : State → Outcome → Prop} {ce sl : Nat} {pc pc' : Nat} {Ls : Array Slot} {st : List Value}
set_option maxRecDepth 65536 in
set_option maxHeartbeats 40000000 in
theorem own_bs (hw : ∀ d ∈ tables_1, d.before a0 Z = true) (hx : p.tables.exec = Jvm.exec) (hby : c.code = prog_190_method_13_code) (hown : s.vm.findClass "com/example/structlane/structlane/header/SourceText" = some m.cls) (hZ : Z.Warmed39 s.vm) (rt rl : Addr) (gl : Nat → Int32) (u0 LL UL tt : Int32) (HH : ∀ k : Nat, (k : Int) < LL.toInt → ((gl k).toInt ≤ u0.toInt ↔ (k : Int) ≤ tt.toInt)) (hT : 0 ≤ tt.toInt ∧ tt.toInt < LL.toInt) (hL : 1 ≤ LL.toInt ∧ LL.toInt ≤ 64) (P0 : Fld Z h rt "com/example/structlane/structlane/header/SourceText" "lineStarts" "[I" (.ref rl)) (P1 : own_AI Z h rl .int (64 : Int32) gl) : ∀ (r : Nat) (T : State) (low high mid : Int32), Stand p l e R s m args below meth c T locs cells slots → T.heap = h → high.toInt - low.toInt ≤ r → (0 ≤ low.toInt ∧ low.toInt ≤ tt.toInt + 1 ∧ tt.toInt + 1 ≤ high.toInt ∧ high.toInt ≤ LL.toInt) → (∀ (T' : State) (mid' : Int32), Stand p l e R s m args below meth c T' locs cells slots → T'.heap = h → own_G p e below P (T'.setTop (mkF m 140 #[.val (.ref rt), .val (.int u0), .val (.ref rl), .val (.int UL), .unset, .val (.int (tt + (1 : Int32))), .val (.int (tt + (1 : Int32))), .val (.int mid')] []))) → own_G p e below P (T.setTop (mkF m 97 #[.val (.ref rt), .val (.int u0), .val (.ref rl), .val (.int UL), .unset, .val (.int low), .val (.int high), .val (.int mid)] [])) := by
  intro r
  induction r with
  | zero =>
    intro T low high mid X eT hr hI k
    have hlt : ¬ low < high := by rw [Int32.lt_iff_toInt_lt]; omega
    have q1 := own_p1 tt (by omega)
    have e1 : low = tt + (1 : Int32) := by rw [← Int32.toInt_inj]; omega
    have e2 : high = tt + (1 : Int32) := by rw [← Int32.toInt_inj]; omega
    have kq := k T mid X eT
    refine own_iload X hx (hb hby od_prog_190_method_13_97) rfl (pc' := 99) rfl ?_
    refine own_iload X hx (hb hby od_prog_190_method_13_99) rfl (pc' := 101) rfl ?_
    refine own_icmpT X hx (hb hby od_prog_190_method_13_101) (flt hlt).2.1 (by decide) (pc' := 140) rfl ?_
    rw [e1, e2]
    exact kq
  | succ r ih =>
    intro T low high mid X eT hr hI k
    by_cases hlt : low < high
    · refine own_iload X hx (hb hby od_prog_190_method_13_97) rfl (pc' := 99) rfl ?_
      refine own_iload X hx (hb hby od_prog_190_method_13_99) rfl (pc' := 101) rfl ?_
      refine own_icmpF X hx (hb hby od_prog_190_method_13_101) (tlt hlt).2.1 (pc' := 104) rfl ?_
      refine own_iload X hx (hb hby od_prog_190_method_13_104) rfl (pc' := 106) rfl ?_
      refine own_iload X hx (hb hby od_prog_190_method_13_106) rfl (pc' := 108) rfl ?_
      refine own_iadd X hx (hb hby od_prog_190_method_13_108) (pc' := 109) rfl ?_
      refine own_iconst X hx (hb hby od_prog_190_method_13_109) (z := (1 : Int32)) rfl (pc' := 110) rfl ?_
      refine own_iushr X hx (hb hby od_prog_190_method_13_110) (pc' := 111) rfl ?_
      obtain ⟨md, hmd, hmb⟩ : ∃ md, (((low + high).toUInt32 >>> ((1 : Int32) &&& 31).toUInt32).toInt32) = md ∧ low.toInt ≤ md.toInt ∧ md.toInt < high.toInt := ⟨_, rfl, own_mid low high (by omega) (by have q := own_lt hlt; omega) (by omega)⟩
      rw [hmd]
      refine own_istore X hx (hb hby od_prog_190_method_13_111) (l' := #[.val (.ref rt), .val (.int u0), .val (.ref rl), .val (.int UL), .unset, .val (.int low), .val (.int high), .val (.int md)]) rfl (pc' := 113) rfl ?_
      refine own_aloadN X hx (hb hby od_prog_190_method_13_113) rfl rfl (pc' := 114) rfl ?_
      refine own_getF X hx hZ hown (ow_46 hw) eT P0 (hb hby od_prog_190_method_13_114) (pc' := 117) rfl ?_
      intro T1 X1 e1
      refine own_iload X1 hx (hb hby od_prog_190_method_13_117) rfl (pc' := 119) rfl ?_
      refine own_iaload X1 hx hZ e1 P1 (x := (gl md.toNatClampNeg)) (own_ib64 (by have r0 := own_lt hlt; omega)) rfl (hb hby od_prog_190_method_13_119) (pc' := 120) rfl ?_
      refine own_iloadN X1 hx (hb hby od_prog_190_method_13_120) rfl (pc' := 121) rfl ?_
      by_cases c2 : u0 < (gl md.toNatClampNeg)
      · refine own_icmpT X1 hx (hb hby od_prog_190_method_13_121) (tlt c2).2.2.1 (by decide) (pc' := 133) rfl ?_
        refine own_iload X1 hx (hb hby od_prog_190_method_13_133) rfl (pc' := 135) rfl ?_
        refine own_istore X1 hx (hb hby od_prog_190_method_13_135) (l' := #[.val (.ref rt), .val (.int u0), .val (.ref rl), .val (.int UL), .unset, .val (.int low), .val (.int md), .val (.int md)]) rfl (pc' := 137) rfl ?_
        refine own_goto X1 hx (hb hby od_prog_190_method_13_137) (by decide) (pc' := 97) rfl ?_
        have a1 := own_at HH md (by omega)
        have r0 := own_lt hlt
        have r1 := own_lt c2
        have b1 := own_p1 md (by omega)
        exact ih _ low md md X1 e1 (by omega) ⟨by omega, by omega, by omega, by omega⟩ k
      · refine own_icmpF X1 hx (hb hby od_prog_190_method_13_121) (flt c2).2.2.1 (pc' := 124) rfl ?_
        refine own_iload X1 hx (hb hby od_prog_190_method_13_124) rfl (pc' := 126) rfl ?_
        refine own_iconst X1 hx (hb hby od_prog_190_method_13_126) (z := (1 : Int32)) rfl (pc' := 127) rfl ?_
        refine own_iadd X1 hx (hb hby od_prog_190_method_13_127) (pc' := 128) rfl ?_
        refine own_istore X1 hx (hb hby od_prog_190_method_13_128) (l' := #[.val (.ref rt), .val (.int u0), .val (.ref rl), .val (.int UL), .unset, .val (.int (md + (1 : Int32))), .val (.int high), .val (.int md)]) rfl (pc' := 130) rfl ?_
        refine own_goto X1 hx (hb hby od_prog_190_method_13_130) (by decide) (pc' := 137) rfl ?_
        refine own_goto X1 hx (hb hby od_prog_190_method_13_137) (by decide) (pc' := 97) rfl ?_
        have a1 := own_at HH md (by omega)
        have r0 := own_lt hlt
        have r1 := own_nlt c2
        have b1 := own_p1 md (by omega)
        exact ih _ (md + (1 : Int32)) high md X1 e1 (by omega) ⟨by omega, by omega, by omega, by omega⟩ k
    · have hlt2 := own_nlt hlt
      have q1 := own_p1 tt (by omega)
      have e1 : low = tt + (1 : Int32) := by rw [← Int32.toInt_inj]; omega
      have e2 : high = tt + (1 : Int32) := by rw [← Int32.toInt_inj]; omega
      have kq := k T mid X eT
      refine own_iload X hx (hb hby od_prog_190_method_13_97) rfl (pc' := 99) rfl ?_
      refine own_iload X hx (hb hby od_prog_190_method_13_99) rfl (pc' := 101) rfl ?_
      refine own_icmpT X hx (hb hby od_prog_190_method_13_101) (flt hlt).2.1 (by decide) (pc' := 140) rfl ?_
      rw [e1, e2]
      exact kq
end OwnBs
theorem od_prog_190_method_13_0 : decode prog_190_method_13_code 0 = .ok (.aload_n 0, 1) := by decide +kernel
theorem od_prog_190_method_13_1 : decode prog_190_method_13_code 1 = .ok (.getfield 51, 3) := by decide +kernel
theorem od_prog_190_method_13_4 : decode prog_190_method_13_code 4 = .ok (.astore_n 2, 1) := by decide +kernel
theorem od_prog_190_method_13_5 : decode prog_190_method_13_code 5 = .ok (.aload_n 0, 1) := by decide +kernel
theorem od_prog_190_method_13_6 : decode prog_190_method_13_code 6 = .ok (.getfield 95, 3) := by decide +kernel
theorem ow_56 {Z : State} {a0 : Array Value} (hw : ∀ d ∈ tables_1, d.before a0 Z = true) : (Jvm.Cond.fieldLink "com/example/structlane/structlane/header/SourceText" (95 : Nat) "com/example/structlane/structlane/header/SourceText" "lastLine" "I").before a0 Z = true := hw _ (List.mem_of_getElem? (i := 56) rfl)
theorem od_prog_190_method_13_9 : decode prog_190_method_13_code 9 = .ok (.istore_n 3, 1) := by decide +kernel
theorem od_prog_190_method_13_10 : decode prog_190_method_13_code 10 = .ok (.aload_n 2, 1) := by decide +kernel
theorem od_prog_190_method_13_11 : decode prog_190_method_13_code 11 = .ok (.iload_n 3, 1) := by decide +kernel
theorem od_prog_190_method_13_12 : decode prog_190_method_13_code 12 = .ok (.iaload, 1) := by decide +kernel
theorem od_prog_190_method_13_13 : decode prog_190_method_13_code 13 = .ok (.iload_n 1, 1) := by decide +kernel
theorem od_prog_190_method_13_14 : decode prog_190_method_13_code 14 = .ok (.if_icmp .gt 28, 3) := by decide +kernel
theorem od_prog_190_method_13_42 : decode prog_190_method_13_code 42 = .ok (.iload_n 3, 1) := by decide +kernel
theorem od_prog_190_method_13_43 : decode prog_190_method_13_code 43 = .ok (.iconst 1, 1) := by decide +kernel
theorem od_prog_190_method_13_44 : decode prog_190_method_13_code 44 = .ok (.iadd, 1) := by decide +kernel
theorem od_prog_190_method_13_45 : decode prog_190_method_13_code 45 = .ok (.aload_n 0, 1) := by decide +kernel
theorem od_prog_190_method_13_46 : decode prog_190_method_13_code 46 = .ok (.getfield 55, 3) := by decide +kernel
theorem od_prog_190_method_13_49 : decode prog_190_method_13_code 49 = .ok (.if_icmp .ge 39, 3) := by decide +kernel
theorem od_prog_190_method_13_52 : decode prog_190_method_13_code 52 = .ok (.aload_n 2, 1) := by decide +kernel
theorem od_prog_190_method_13_53 : decode prog_190_method_13_code 53 = .ok (.iload_n 3, 1) := by decide +kernel
theorem od_prog_190_method_13_54 : decode prog_190_method_13_code 54 = .ok (.iconst 1, 1) := by decide +kernel
theorem od_prog_190_method_13_55 : decode prog_190_method_13_code 55 = .ok (.iadd, 1) := by decide +kernel
theorem od_prog_190_method_13_56 : decode prog_190_method_13_code 56 = .ok (.iaload, 1) := by decide +kernel
theorem od_prog_190_method_13_57 : decode prog_190_method_13_code 57 = .ok (.iload_n 1, 1) := by decide +kernel
theorem od_prog_190_method_13_58 : decode prog_190_method_13_code 58 = .ok (.if_icmp .gt 30, 3) := by decide +kernel
theorem od_prog_190_method_13_88 : decode prog_190_method_13_code 88 = .ok (.iconst 0, 1) := by decide +kernel
theorem od_prog_190_method_13_89 : decode prog_190_method_13_code 89 = .ok (.istore 5, 2) := by decide +kernel
theorem od_prog_190_method_13_91 : decode prog_190_method_13_code 91 = .ok (.aload_n 0, 1) := by decide +kernel
theorem od_prog_190_method_13_92 : decode prog_190_method_13_code 92 = .ok (.getfield 55, 3) := by decide +kernel
theorem od_prog_190_method_13_95 : decode prog_190_method_13_code 95 = .ok (.istore 6, 2) := by decide +kernel
theorem od_prog_190_method_13_140 : decode prog_190_method_13_code 140 = .ok (.iload 5, 2) := by decide +kernel
theorem od_prog_190_method_13_142 : decode prog_190_method_13_code 142 = .ok (.iconst 1, 1) := by decide +kernel
theorem od_prog_190_method_13_143 : decode prog_190_method_13_code 143 = .ok (.isub, 1) := by decide +kernel
theorem od_prog_190_method_13_144 : decode prog_190_method_13_code 144 = .ok (.istore 4, 2) := by decide +kernel
theorem od_prog_190_method_13_146 : decode prog_190_method_13_code 146 = .ok (.aload_n 0, 1) := by decide +kernel
theorem od_prog_190_method_13_147 : decode prog_190_method_13_code 147 = .ok (.iload 4, 2) := by decide +kernel
theorem od_prog_190_method_13_149 : decode prog_190_method_13_code 149 = .ok (.putfield 95, 3) := by decide +kernel
theorem od_prog_190_method_13_152 : decode prog_190_method_13_code 152 = .ok (.iload 4, 2) := by decide +kernel
theorem od_prog_190_method_13_154 : decode prog_190_method_13_code 154 = .ok (.aload_n 0, 1) := by decide +kernel
theorem od_prog_190_method_13_155 : decode prog_190_method_13_code 155 = .ok (.getfield 19, 3) := by decide +kernel
theorem osn_32 {Z : State} {a0 : Array Value} (hw : ∀ d ∈ tables_1, d.before a0 Z = true) : RoadKit.slotOf Z "com/example/structlane/structlane/header/SourceText" "firstLine" "I" ≠ RoadKit.slotOf Z "com/example/structlane/structlane/header/SourceText" "lastLine" "I" := slot_ne (C := "com/example/structlane/structlane/header/SourceText") (Or.inr (ow_19 hw)) (Or.inl (ow_57 hw)) (by decide) (t := .int) (t' := .int) (by decide) (by decide)
theorem od_prog_190_method_13_158 : decode prog_190_method_13_code 158 = .ok (.iadd, 1) := by decide +kernel
theorem od_prog_190_method_13_159 : decode prog_190_method_13_code 159 = .ok (.ireturn, 1) := by decide +kernel
theorem osn_33 {Z : State} {a0 : Array Value} (hw : ∀ d ∈ tables_1, d.before a0 Z = true) : RoadKit.slotOf Z "com/example/structlane/structlane/header/SourceText" "lineStarts" "[I" ≠ RoadKit.slotOf Z "com/example/structlane/structlane/header/SourceText" "lastLine" "I" := slot_ne (C := "com/example/structlane/structlane/header/SourceText") (Or.inr (ow_47 hw)) (Or.inl (ow_57 hw)) (by decide) (t := (.array .int)) (t' := .int) (by decide) (by decide)
theorem osn_34 {Z : State} {a0 : Array Value} (hw : ∀ d ∈ tables_1, d.before a0 Z = true) : RoadKit.slotOf Z "com/example/structlane/structlane/header/SourceText" "lines" "I" ≠ RoadKit.slotOf Z "com/example/structlane/structlane/header/SourceText" "lastLine" "I" := slot_ne (C := "com/example/structlane/structlane/header/SourceText") (Or.inr (ow_50 hw)) (Or.inl (ow_57 hw)) (by decide) (t := .int) (t' := .int) (by decide) (by decide)
theorem od_prog_190_method_13_61 : decode prog_190_method_13_code 61 = .ok (.iload_n 3, 1) := by decide +kernel
theorem od_prog_190_method_13_62 : decode prog_190_method_13_code 62 = .ok (.iconst 2, 1) := by decide +kernel
theorem od_prog_190_method_13_63 : decode prog_190_method_13_code 63 = .ok (.iadd, 1) := by decide +kernel
theorem od_prog_190_method_13_64 : decode prog_190_method_13_code 64 = .ok (.aload_n 0, 1) := by decide +kernel
theorem od_prog_190_method_13_65 : decode prog_190_method_13_code 65 = .ok (.getfield 55, 3) := by decide +kernel
theorem od_prog_190_method_13_68 : decode prog_190_method_13_code 68 = .ok (.if_icmp .eq 12, 3) := by decide +kernel
theorem od_prog_190_method_13_80 : decode prog_190_method_13_code 80 = .ok (.iload_n 3, 1) := by decide +kernel
theorem od_prog_190_method_13_81 : decode prog_190_method_13_code 81 = .ok (.iconst 1, 1) := by decide +kernel
theorem od_prog_190_method_13_82 : decode prog_190_method_13_code 82 = .ok (.iadd, 1) := by decide +kernel
theorem od_prog_190_method_13_83 : decode prog_190_method_13_code 83 = .ok (.istore 4, 2) := by decide +kernel
theorem od_prog_190_method_13_85 : decode prog_190_method_13_code 85 = .ok (.goto 61, 3) := by decide +kernel
theorem od_prog_190_method_13_71 : decode prog_190_method_13_code 71 = .ok (.iload_n 1, 1) := by decide +kernel
theorem od_prog_190_method_13_72 : decode prog_190_method_13_code 72 = .ok (.aload_n 2, 1) := by decide +kernel
theorem od_prog_190_method_13_73 : decode prog_190_method_13_code 73 = .ok (.iload_n 3, 1) := by decide +kernel
theorem od_prog_190_method_13_74 : decode prog_190_method_13_code 74 = .ok (.iconst 2, 1) := by decide +kernel
theorem od_prog_190_method_13_75 : decode prog_190_method_13_code 75 = .ok (.iadd, 1) := by decide +kernel
theorem od_prog_190_method_13_76 : decode prog_190_method_13_code 76 = .ok (.iaload, 1) := by decide +kernel
theorem od_prog_190_method_13_77 : decode prog_190_method_13_code 77 = .ok (.if_icmp .ge 11, 3) := by decide +kernel
theorem od_prog_190_method_13_17 : decode prog_190_method_13_code 17 = .ok (.iload_n 3, 1) := by decide +kernel
theorem od_prog_190_method_13_18 : decode prog_190_method_13_code 18 = .ok (.iconst 1, 1) := by decide +kernel
theorem od_prog_190_method_13_19 : decode prog_190_method_13_code 19 = .ok (.iadd, 1) := by decide +kernel
theorem od_prog_190_method_13_20 : decode prog_190_method_13_code 20 = .ok (.aload_n 0, 1) := by decide +kernel
theorem od_prog_190_method_13_21 : decode prog_190_method_13_code 21 = .ok (.getfield 55, 3) := by decide +kernel
theorem od_prog_190_method_13_24 : decode prog_190_method_13_code 24 = .ok (.if_icmp .eq 12, 3) := by decide +kernel
theorem od_prog_190_method_13_36 : decode prog_190_method_13_code 36 = .ok (.iload_n 3, 1) := by decide +kernel
theorem od_prog_190_method_13_37 : decode prog_190_method_13_code 37 = .ok (.istore 4, 2) := by decide +kernel
theorem od_prog_190_method_13_39 : decode prog_190_method_13_code 39 = .ok (.goto 107, 3) := by decide +kernel
theorem od_prog_190_method_13_27 : decode prog_190_method_13_code 27 = .ok (.iload_n 1, 1) := by decide +kernel
theorem od_prog_190_method_13_28 : decode prog_190_method_13_code 28 = .ok (.aload_n 2, 1) := by decide +kernel
theorem od_prog_190_method_13_29 : decode prog_190_method_13_code 29 = .ok (.iload_n 3, 1) := by decide +kernel
theorem od_prog_190_method_13_30 : decode prog_190_method_13_code 30 = .ok (.iconst 1, 1) := by decide +kernel
theorem od_prog_190_method_13_31 : decode prog_190_method_13_code 31 = .ok (.iadd, 1) := by decide +kernel
theorem od_prog_190_method_13_32 : decode prog_190_method_13_code 32 = .ok (.iaload, 1) := by decide +kernel
theorem od_prog_190_method_13_33 : decode prog_190_method_13_code 33 = .ok (.if_icmp .ge 9, 3) := by decide +kernel
theorem oef_rm_lo (m : MethodId) (rt : Addr) (u0 : Int32) : entryFrame m #[(.ref rt), (.int u0)] 8 = mkF m 0 #[.val (.ref rt), .val (.int u0), .unset, .unset, .unset, .unset, .unset, .unset] [] := by first | (simp [entryFrame, mkF, argsToLocals, Value.category]; done) | rfl
set_option maxRecDepth 65536 in
set_option maxHeartbeats 40000000 in
theorem rm_lo (l : Launch) (Z : State) (a0 : Array Value) (hw : ∀ d ∈ tables_1, d.before a0 Z = true) (rt : Addr) (u0 : Int32) (rl : Addr) (LL : Int32) (gl : Nat → Int32) (UL : Int32) (tt : Int32) (h0 : Heap) (n0 : Nat) (Z0 : n0 ≤ h0.size) (P0 : Exa Z h0 rt "com/example/structlane/structlane/header/SourceText") (P1 : Fld Z h0 rt "com/example/structlane/structlane/header/SourceText" "lineStarts" "[I" (.ref rl)) (P2 : Fld Z h0 rt "com/example/structlane/structlane/header/SourceText" "lines" "I" (.int LL)) (P3 : Fld Z h0 rt "com/example/structlane/structlane/header/SourceText" "firstLine" "I" (.int (1 : Int32))) (P4 : Fld Z h0 rt "com/example/structlane/structlane/header/SourceText" "lastLine" "I" (.int UL)) (P5 : own_AI Z h0 rl .int (64 : Int32) gl) (g_rt : n0 ≤ rt) (HH : ∀ k : Nat, (k : Int) < LL.toInt → ((gl k).toInt ≤ u0.toInt ↔ (k : Int) ≤ tt.toInt)) (hT : 0 ≤ tt.toInt ∧ tt.toInt < LL.toInt) (hL : 1 ≤ LL.toInt ∧ LL.toInt ≤ 64) (hU : 0 ≤ UL.toInt ∧ UL.toInt < LL.toInt) :
    own_M l Z (⟨"com/example/structlane/structlane/header/SourceText", "lineOf", "(I)I"⟩ : MethodName) prog_190_method_13_code 8 (some .int) [] ({ frames := 0, cells := 0, slots := 0, locals := 0 } : Room) #[(.ref rt), (.int u0)] h0 (fun v h L => v = some (.int (tt + (1 : Int32))) ∧ Fr n0 L ∧ (Keep h0 h [rt]) ∧ (Fld Z h rt "com/example/structlane/structlane/header/SourceText" "lineStarts" "[I" (.ref rl)) ∧ (Fld Z h rt "com/example/structlane/structlane/header/SourceText" "lines" "I" (.int LL)) ∧ (Fld Z h rt "com/example/structlane/structlane/header/SourceText" "firstLine" "I" (.int (1 : Int32))) ∧ (Fld Z h rt "com/example/structlane/structlane/header/SourceText" "lastLine" "I" (.int tt))) 0 0 := by
  refine own_body (plainFor_of_name opn_com_example_structlane_structlane_header_SourceText) ?_
  intro p e s m below meth c s1 hx hby hml hown hnm hret hlk hZ X0 e0
  rw [oef_rm_lo m rt u0]
  have N0 := Fr.nil n0
  have hU1 := own_p1 UL (by omega)
  have hU2 := own_p2 UL (by omega)
  refine own_aloadN X0 hx (hb hby od_prog_190_method_13_0) rfl rfl (pc' := 1) rfl ?_
  refine own_getF X0 hx hZ hown (ow_46 hw) e0 P1 (hb hby od_prog_190_method_13_1) (pc' := 4) rfl ?_
  intro T1 X1 e1
  refine own_astoreN X1 hx (hb hby od_prog_190_method_13_4) rfl (l' := #[.val (.ref rt), .val (.int u0), .val (.ref rl), .unset, .unset, .unset, .unset, .unset]) rfl (pc' := 5) rfl ?_
  refine own_aloadN X1 hx (hb hby od_prog_190_method_13_5) rfl rfl (pc' := 6) rfl ?_
  refine own_getF X1 hx hZ hown (ow_56 hw) e1 P4 (hb hby od_prog_190_method_13_6) (pc' := 9) rfl ?_
  intro T2 X2 e2
  refine own_istoreN X2 hx (hb hby od_prog_190_method_13_9) (l' := #[.val (.ref rt), .val (.int u0), .val (.ref rl), .val (.int UL), .unset, .unset, .unset, .unset]) rfl (pc' := 10) rfl ?_
  refine own_aloadN X2 hx (hb hby od_prog_190_method_13_10) rfl rfl (pc' := 11) rfl ?_
  refine own_iloadN X2 hx (hb hby od_prog_190_method_13_11) rfl (pc' := 12) rfl ?_
  refine own_iaload X2 hx hZ e2 P5 (x := (gl UL.toNatClampNeg)) (own_ib64 (by omega)) rfl (hb hby od_prog_190_method_13_12) (pc' := 13) rfl ?_
  refine own_iloadN X2 hx (hb hby od_prog_190_method_13_13) rfl (pc' := 14) rfl ?_
  by_cases c3 : u0 < (gl UL.toNatClampNeg)
  · refine own_icmpT X2 hx (hb hby od_prog_190_method_13_14) (tlt c3).2.2.1 (by decide) (pc' := 42) rfl ?_
    refine own_iloadN X2 hx (hb hby od_prog_190_method_13_42) rfl (pc' := 43) rfl ?_
    refine own_iconst X2 hx (hb hby od_prog_190_method_13_43) (z := (1 : Int32)) rfl (pc' := 44) rfl ?_
    refine own_iadd X2 hx (hb hby od_prog_190_method_13_44) (pc' := 45) rfl ?_
    refine own_aloadN X2 hx (hb hby od_prog_190_method_13_45) rfl rfl (pc' := 46) rfl ?_
    refine own_getF X2 hx hZ hown (ow_49 hw) e2 P2 (hb hby od_prog_190_method_13_46) (pc' := 49) rfl ?_
    intro T4 X4 e4
    by_cases c5 : (UL + (1 : Int32)) < LL
    · refine own_icmpF X4 hx (hb hby od_prog_190_method_13_49) (tlt c5).2.1 (pc' := 52) rfl ?_
      refine own_aloadN X4 hx (hb hby od_prog_190_method_13_52) rfl rfl (pc' := 53) rfl ?_
      refine own_iloadN X4 hx (hb hby od_prog_190_method_13_53) rfl (pc' := 54) rfl ?_
      refine own_iconst X4 hx (hb hby od_prog_190_method_13_54) (z := (1 : Int32)) rfl (pc' := 55) rfl ?_
      refine own_iadd X4 hx (hb hby od_prog_190_method_13_55) (pc' := 56) rfl ?_
      refine own_iaload X4 hx hZ e4 P5 (x := (gl (UL + (1 : Int32)).toNatClampNeg)) (own_ib64 (by have r4 := own_lt c3; have r5 := own_lt c5; omega)) rfl (hb hby od_prog_190_method_13_56) (pc' := 57) rfl ?_
      refine own_iloadN X4 hx (hb hby od_prog_190_method_13_57) rfl (pc' := 58) rfl ?_
      by_cases c6 : u0 < (gl (UL + (1 : Int32)).toNatClampNeg)
      · refine own_icmpT X4 hx (hb hby od_prog_190_method_13_58) (tlt c6).2.2.1 (by decide) (pc' := 88) rfl ?_
        refine own_iconst X4 hx (hb hby od_prog_190_method_13_88) (z := (0 : Int32)) rfl (pc' := 89) rfl ?_
        refine own_istore X4 hx (hb hby od_prog_190_method_13_89) (l' := #[.val (.ref rt), .val (.int u0), .val (.ref rl), .val (.int UL), .unset, .val (.int (0 : Int32)), .unset, .unset]) rfl (pc' := 91) rfl ?_
        refine own_aloadN X4 hx (hb hby od_prog_190_method_13_91) rfl rfl (pc' := 92) rfl ?_
        refine own_getF X4 hx hZ hown (ow_49 hw) e4 P2 (hb hby od_prog_190_method_13_92) (pc' := 95) rfl ?_
        intro T7 X7 e7
        refine own_istore X7 hx (hb hby od_prog_190_method_13_95) (l' := #[.val (.ref rt), .val (.int u0), .val (.ref rl), .val (.int UL), .unset, .val (.int (0 : Int32)), .val (.int LL), .unset]) rfl (pc' := 97) rfl ?_
        refine own_iload X7 hx (hb hby od_prog_190_method_13_97) rfl (pc' := 99) rfl ?_
        refine own_iload X7 hx (hb hby od_prog_190_method_13_99) rfl (pc' := 101) rfl ?_
        refine own_icmpF X7 hx (hb hby od_prog_190_method_13_101) (tlt (by rw [Int32.lt_iff_toInt_lt]; have q : (0 : Int32).toInt = 0 := rfl; omega)).2.1 (pc' := 104) rfl ?_
        refine own_iload X7 hx (hb hby od_prog_190_method_13_104) rfl (pc' := 106) rfl ?_
        refine own_iload X7 hx (hb hby od_prog_190_method_13_106) rfl (pc' := 108) rfl ?_
        refine own_iadd X7 hx (hb hby od_prog_190_method_13_108) (pc' := 109) rfl ?_
        refine own_iconst X7 hx (hb hby od_prog_190_method_13_109) (z := (1 : Int32)) rfl (pc' := 110) rfl ?_
        refine own_iushr X7 hx (hb hby od_prog_190_method_13_110) (pc' := 111) rfl ?_
        obtain ⟨md, hmd, hmb⟩ : ∃ md, ((((0 : Int32) + LL).toUInt32 >>> ((1 : Int32) &&& 31).toUInt32).toInt32) = md ∧ (0 : Int32).toInt ≤ md.toInt ∧ md.toInt < LL.toInt := ⟨_, rfl, own_mid (0 : Int32) LL (by decide) (by have q : (0 : Int32).toInt = 0 := rfl; omega) (by omega)⟩
        have hz0 : (0 : Int32).toInt = 0 := rfl
        rw [hmd]
        refine own_istore X7 hx (hb hby od_prog_190_method_13_111) (l' := #[.val (.ref rt), .val (.int u0), .val (.ref rl), .val (.int UL), .unset, .val (.int (0 : Int32)), .val (.int LL), .val (.int md)]) rfl (pc' := 113) rfl ?_
        refine own_aloadN X7 hx (hb hby od_prog_190_method_13_113) rfl rfl (pc' := 114) rfl ?_
        refine own_getF X7 hx hZ hown (ow_46 hw) e7 P1 (hb hby od_prog_190_method_13_114) (pc' := 117) rfl ?_
        intro T8 X8 e8
        refine own_iload X8 hx (hb hby od_prog_190_method_13_117) rfl (pc' := 119) rfl ?_
        refine own_iaload X8 hx hZ e8 P5 (x := (gl md.toNatClampNeg)) (own_ib64 (by have r4 := own_lt c3; have r5 := own_lt c5; have r6 := own_lt c6; omega)) rfl (hb hby od_prog_190_method_13_119) (pc' := 120) rfl ?_
        refine own_iloadN X8 hx (hb hby od_prog_190_method_13_120) rfl (pc' := 121) rfl ?_
        by_cases c9 : u0 < (gl md.toNatClampNeg)
        · refine own_icmpT X8 hx (hb hby od_prog_190_method_13_121) (tlt c9).2.2.1 (by decide) (pc' := 133) rfl ?_
          refine own_iload X8 hx (hb hby od_prog_190_method_13_133) rfl (pc' := 135) rfl ?_
          refine own_istore X8 hx (hb hby od_prog_190_method_13_135) (l' := #[.val (.ref rt), .val (.int u0), .val (.ref rl), .val (.int UL), .unset, .val (.int (0 : Int32)), .val (.int md), .val (.int md)]) rfl (pc' := 137) rfl ?_
          refine own_goto X8 hx (hb hby od_prog_190_method_13_137) (by decide) (pc' := 97) rfl ?_
          have am := own_at HH md (by omega)
          have r4 := own_lt c3
          have r5 := own_lt c5
          have r6 := own_lt c6
          have r7 := own_lt c9
          have bm := own_p1 md (by omega)
          refine own_bs hw hx hby hown hZ rt rl gl u0 LL UL tt HH hT hL P1 P5 64 _ (0 : Int32) md md X8 e8 (by omega) ⟨by omega, by omega, by omega, by omega⟩ ?_
          intro T10 md10 X10 e10
          refine own_iload X10 hx (hb hby od_prog_190_method_13_140) rfl (pc' := 142) rfl ?_
          refine own_iconst X10 hx (hb hby od_prog_190_method_13_142) (z := (1 : Int32)) rfl (pc' := 143) rfl ?_
          refine own_isub X10 hx (hb hby od_prog_190_method_13_143) (pc' := 144) rfl ?_
          refine own_istore X10 hx (hb hby od_prog_190_method_13_144) (l' := #[.val (.ref rt), .val (.int u0), .val (.ref rl), .val (.int UL), .val (.int ((tt + (1 : Int32)) - (1 : Int32))), .val (.int (tt + (1 : Int32))), .val (.int (tt + (1 : Int32))), .val (.int md10)]) rfl (pc' := 146) rfl ?_
          have eF := own_m1 tt
          refine own_cast (S' := T10.setTop (mkF m 146 #[.val (.ref rt), .val (.int u0), .val (.ref rl), .val (.int UL), .val (.int tt), .val (.int (tt + (1 : Int32))), .val (.int (tt + (1 : Int32))), .val (.int md10)] [])) (by rw [eF]) ?_
          refine own_aloadN X10 hx (hb hby od_prog_190_method_13_146) rfl rfl (pc' := 147) rfl ?_
          refine own_iload X10 hx (hb hby od_prog_190_method_13_147) rfl (pc' := 149) rfl ?_
          refine own_putF X10 hx hZ hown (ow_56 hw) e10 P4 P0 (Or.inl (ow_57 hw)) (ow_7 hw) (ty := .int) (by decide) rfl rfl (hb hby od_prog_190_method_13_149) (pc' := 152) rfl ?_
          intro T11 h11 X11 e11 W11
          have N11 := Fr.snoc X11 N0 g_rt
          refine own_iload X11 hx (hb hby od_prog_190_method_13_152) rfl (pc' := 154) rfl ?_
          refine own_aloadN X11 hx (hb hby od_prog_190_method_13_154) rfl rfl (pc' := 155) rfl ?_
          have f12 : Fld Z h11 rt "com/example/structlane/structlane/header/SourceText" "firstLine" "I" (.int (1 : Int32)) := (P3.other W11 (Or.inr (osn_32 hw)))
          refine own_getF X11 hx hZ hown (ow_18 hw) e11 f12 (hb hby od_prog_190_method_13_155) (pc' := 158) rfl ?_
          intro T13 X13 e13
          refine own_iadd X13 hx (hb hby od_prog_190_method_13_158) (pc' := 159) rfl ?_
          have k15 : Keep h0 h11 [rt] := (Keep.wr (Keep.refl _ _) W11 (Or.inl (List.mem_of_getElem? (i := 0) rfl)))
          have f16 : Fld Z h11 rt "com/example/structlane/structlane/header/SourceText" "lineStarts" "[I" (.ref rl) := (P1.other W11 (Or.inr (osn_33 hw)))
          have f17 : Fld Z h11 rt "com/example/structlane/structlane/header/SourceText" "lines" "I" (.int LL) := (P2.other W11 (Or.inr (osn_34 hw)))
          exact own_retI X13 hx hret hlk (hb hby od_prog_190_method_13_159) ⟨rfl, N11, (by rw [e13]; exact k15), (by rw [e13]; exact f16), (by rw [e13]; exact f17), (by rw [e13]; exact f12), (by rw [e13]; exact (P4.same W11))⟩ (by decide) (by decide)
        · refine own_icmpF X8 hx (hb hby od_prog_190_method_13_121) (flt c9).2.2.1 (pc' := 124) rfl ?_
          refine own_iload X8 hx (hb hby od_prog_190_method_13_124) rfl (pc' := 126) rfl ?_
          refine own_iconst X8 hx (hb hby od_prog_190_method_13_126) (z := (1 : Int32)) rfl (pc' := 127) rfl ?_
          refine own_iadd X8 hx (hb hby od_prog_190_method_13_127) (pc' := 128) rfl ?_
          refine own_istore X8 hx (hb hby od_prog_190_method_13_128) (l' := #[.val (.ref rt), .val (.int u0), .val (.ref rl), .val (.int UL), .unset, .val (.int (md + (1 : Int32))), .val (.int LL), .val (.int md)]) rfl (pc' := 130) rfl ?_
          refine own_goto X8 hx (hb hby od_prog_190_method_13_130) (by decide) (pc' := 137) rfl ?_
          refine own_goto X8 hx (hb hby od_prog_190_method_13_137) (by decide) (pc' := 97) rfl ?_
          have am := own_at HH md (by omega)
          have r4 := own_lt c3
          have r5 := own_lt c5
          have r6 := own_lt c6
          have r7 := own_nlt c9
          have bm := own_p1 md (by omega)
          refine own_bs hw hx hby hown hZ rt rl gl u0 LL UL tt HH hT hL P1 P5 64 _ (md + (1 : Int32)) LL md X8 e8 (by omega) ⟨by omega, by omega, by omega, by omega⟩ ?_
          intro T18 md18 X18 e18
          refine own_iload X18 hx (hb hby od_prog_190_method_13_140) rfl (pc' := 142) rfl ?_
          refine own_iconst X18 hx (hb hby od_prog_190_method_13_142) (z := (1 : Int32)) rfl (pc' := 143) rfl ?_
          refine own_isub X18 hx (hb hby od_prog_190_method_13_143) (pc' := 144) rfl ?_
          refine own_istore X18 hx (hb hby od_prog_190_method_13_144) (l' := #[.val (.ref rt), .val (.int u0), .val (.ref rl), .val (.int UL), .val (.int ((tt + (1 : Int32)) - (1 : Int32))), .val (.int (tt + (1 : Int32))), .val (.int (tt + (1 : Int32))), .val (.int md18)]) rfl (pc' := 146) rfl ?_
          have eF := own_m1 tt
          refine own_cast (S' := T18.setTop (mkF m 146 #[.val (.ref rt), .val (.int u0), .val (.ref rl), .val (.int UL), .val (.int tt), .val (.int (tt + (1 : Int32))), .val (.int (tt + (1 : Int32))), .val (.int md18)] [])) (by rw [eF]) ?_
          refine own_aloadN X18 hx (hb hby od_prog_190_method_13_146) rfl rfl (pc' := 147) rfl ?_
          refine own_iload X18 hx (hb hby od_prog_190_method_13_147) rfl (pc' := 149) rfl ?_
          refine own_putF X18 hx hZ hown (ow_56 hw) e18 P4 P0 (Or.inl (ow_57 hw)) (ow_7 hw) (ty := .int) (by decide) rfl rfl (hb hby od_prog_190_method_13_149) (pc' := 152) rfl ?_
          intro T19 h19 X19 e19 W19
          have N19 := Fr.snoc X19 N0 g_rt
          refine own_iload X19 hx (hb hby od_prog_190_method_13_152) rfl (pc' := 154) rfl ?_
          refine own_aloadN X19 hx (hb hby od_prog_190_method_13_154) rfl rfl (pc' := 155) rfl ?_
          have f20 : Fld Z h19 rt "com/example/structlane/structlane/header/SourceText" "firstLine" "I" (.int (1 : Int32)) := (P3.other W19 (Or.inr (osn_32 hw)))
          refine own_getF X19 hx hZ hown (ow_18 hw) e19 f20 (hb hby od_prog_190_method_13_155) (pc' := 158) rfl ?_
          intro T21 X21 e21
          refine own_iadd X21 hx (hb hby od_prog_190_method_13_158) (pc' := 159) rfl ?_
          have k23 : Keep h0 h19 [rt] := (Keep.wr (Keep.refl _ _) W19 (Or.inl (List.mem_of_getElem? (i := 0) rfl)))
          have f24 : Fld Z h19 rt "com/example/structlane/structlane/header/SourceText" "lineStarts" "[I" (.ref rl) := (P1.other W19 (Or.inr (osn_33 hw)))
          have f25 : Fld Z h19 rt "com/example/structlane/structlane/header/SourceText" "lines" "I" (.int LL) := (P2.other W19 (Or.inr (osn_34 hw)))
          exact own_retI X21 hx hret hlk (hb hby od_prog_190_method_13_159) ⟨rfl, N19, (by rw [e21]; exact k23), (by rw [e21]; exact f24), (by rw [e21]; exact f25), (by rw [e21]; exact f20), (by rw [e21]; exact (P4.same W19))⟩ (by decide) (by decide)
      · refine own_icmpF X4 hx (hb hby od_prog_190_method_13_58) (flt c6).2.2.1 (pc' := 61) rfl ?_
        refine own_iloadN X4 hx (hb hby od_prog_190_method_13_61) rfl (pc' := 62) rfl ?_
        refine own_iconst X4 hx (hb hby od_prog_190_method_13_62) (z := (2 : Int32)) rfl (pc' := 63) rfl ?_
        refine own_iadd X4 hx (hb hby od_prog_190_method_13_63) (pc' := 64) rfl ?_
        refine own_aloadN X4 hx (hb hby od_prog_190_method_13_64) rfl rfl (pc' := 65) rfl ?_
        refine own_getF X4 hx hZ hown (ow_49 hw) e4 P2 (hb hby od_prog_190_method_13_65) (pc' := 68) rfl ?_
        intro T26 X26 e26
        by_cases c27 : (UL + (2 : Int32)) = LL
        · refine own_icmpT X26 hx (hb hby od_prog_190_method_13_68) (teq c27).1 (by decide) (pc' := 80) rfl ?_
          refine own_iloadN X26 hx (hb hby od_prog_190_method_13_80) rfl (pc' := 81) rfl ?_
          refine own_iconst X26 hx (hb hby od_prog_190_method_13_81) (z := (1 : Int32)) rfl (pc' := 82) rfl ?_
          refine own_iadd X26 hx (hb hby od_prog_190_method_13_82) (pc' := 83) rfl ?_
          refine own_istore X26 hx (hb hby od_prog_190_method_13_83) (l' := #[.val (.ref rt), .val (.int u0), .val (.ref rl), .val (.int UL), .val (.int (UL + (1 : Int32))), .unset, .unset, .unset]) rfl (pc' := 85) rfl ?_
          refine own_goto X26 hx (hb hby od_prog_190_method_13_85) (by decide) (pc' := 146) rfl ?_
          have eF : (UL + (1 : Int32)) = tt := by
            have r4 := own_lt c3
            have r5 := own_lt c5
            have r6 := own_nlt c6
            have r7 := own_eqI c27
            have a0 := own_at HH UL (by omega)
            have a1 := own_at HH (UL + (1 : Int32)) (by omega)
            rw [← Int32.toInt_inj]
            omega
          refine own_cast (S' := T26.setTop (mkF m 146 #[.val (.ref rt), .val (.int u0), .val (.ref rl), .val (.int UL), .val (.int tt), .unset, .unset, .unset] [])) (by rw [eF]) ?_
          refine own_aloadN X26 hx (hb hby od_prog_190_method_13_146) rfl rfl (pc' := 147) rfl ?_
          refine own_iload X26 hx (hb hby od_prog_190_method_13_147) rfl (pc' := 149) rfl ?_
          refine own_putF X26 hx hZ hown (ow_56 hw) e26 P4 P0 (Or.inl (ow_57 hw)) (ow_7 hw) (ty := .int) (by decide) rfl rfl (hb hby od_prog_190_method_13_149) (pc' := 152) rfl ?_
          intro T28 h28 X28 e28 W28
          have N28 := Fr.snoc X28 N0 g_rt
          refine own_iload X28 hx (hb hby od_prog_190_method_13_152) rfl (pc' := 154) rfl ?_
          refine own_aloadN X28 hx (hb hby od_prog_190_method_13_154) rfl rfl (pc' := 155) rfl ?_
          have f29 : Fld Z h28 rt "com/example/structlane/structlane/header/SourceText" "firstLine" "I" (.int (1 : Int32)) := (P3.other W28 (Or.inr (osn_32 hw)))
          refine own_getF X28 hx hZ hown (ow_18 hw) e28 f29 (hb hby od_prog_190_method_13_155) (pc' := 158) rfl ?_
          intro T30 X30 e30
          refine own_iadd X30 hx (hb hby od_prog_190_method_13_158) (pc' := 159) rfl ?_
          have k32 : Keep h0 h28 [rt] := (Keep.wr (Keep.refl _ _) W28 (Or.inl (List.mem_of_getElem? (i := 0) rfl)))
          have f33 : Fld Z h28 rt "com/example/structlane/structlane/header/SourceText" "lineStarts" "[I" (.ref rl) := (P1.other W28 (Or.inr (osn_33 hw)))
          have f34 : Fld Z h28 rt "com/example/structlane/structlane/header/SourceText" "lines" "I" (.int LL) := (P2.other W28 (Or.inr (osn_34 hw)))
          exact own_retI X30 hx hret hlk (hb hby od_prog_190_method_13_159) ⟨rfl, N28, (by rw [e30]; exact k32), (by rw [e30]; exact f33), (by rw [e30]; exact f34), (by rw [e30]; exact f29), (by rw [e30]; exact (P4.same W28))⟩ (by decide) (by decide)
        · refine own_icmpF X26 hx (hb hby od_prog_190_method_13_68) (feq c27).1 (pc' := 71) rfl ?_
          refine own_iloadN X26 hx (hb hby od_prog_190_method_13_71) rfl (pc' := 72) rfl ?_
          refine own_aloadN X26 hx (hb hby od_prog_190_method_13_72) rfl rfl (pc' := 73) rfl ?_
          refine own_iloadN X26 hx (hb hby od_prog_190_method_13_73) rfl (pc' := 74) rfl ?_
          refine own_iconst X26 hx (hb hby od_prog_190_method_13_74) (z := (2 : Int32)) rfl (pc' := 75) rfl ?_
          refine own_iadd X26 hx (hb hby od_prog_190_method_13_75) (pc' := 76) rfl ?_
          refine own_iaload X26 hx hZ e26 P5 (x := (gl (UL + (2 : Int32)).toNatClampNeg)) (own_ib64 (by have r4 := own_lt c3; have r5 := own_lt c5; have r6 := own_nlt c6; have r7 := own_neI c27; omega)) rfl (hb hby od_prog_190_method_13_76) (pc' := 77) rfl ?_
          by_cases c35 : u0 < (gl (UL + (2 : Int32)).toNatClampNeg)
          · refine own_icmpF X26 hx (hb hby od_prog_190_method_13_77) (tlt c35).2.1 (pc' := 80) rfl ?_
            refine own_iloadN X26 hx (hb hby od_prog_190_method_13_80) rfl (pc' := 81) rfl ?_
            refine own_iconst X26 hx (hb hby od_prog_190_method_13_81) (z := (1 : Int32)) rfl (pc' := 82) rfl ?_
            refine own_iadd X26 hx (hb hby od_prog_190_method_13_82) (pc' := 83) rfl ?_
            refine own_istore X26 hx (hb hby od_prog_190_method_13_83) (l' := #[.val (.ref rt), .val (.int u0), .val (.ref rl), .val (.int UL), .val (.int (UL + (1 : Int32))), .unset, .unset, .unset]) rfl (pc' := 85) rfl ?_
            refine own_goto X26 hx (hb hby od_prog_190_method_13_85) (by decide) (pc' := 146) rfl ?_
            have eF : (UL + (1 : Int32)) = tt := by
              have r4 := own_lt c3
              have r5 := own_lt c5
              have r6 := own_nlt c6
              have r7 := own_neI c27
              have r8 := own_lt c35
              have a0 := own_at HH UL (by omega)
              have a1 := own_at HH (UL + (1 : Int32)) (by omega)
              have a2 := own_at HH (UL + (2 : Int32)) (by omega)
              rw [← Int32.toInt_inj]
              omega
            refine own_cast (S' := T26.setTop (mkF m 146 #[.val (.ref rt), .val (.int u0), .val (.ref rl), .val (.int UL), .val (.int tt), .unset, .unset, .unset] [])) (by rw [eF]) ?_
            refine own_aloadN X26 hx (hb hby od_prog_190_method_13_146) rfl rfl (pc' := 147) rfl ?_
            refine own_iload X26 hx (hb hby od_prog_190_method_13_147) rfl (pc' := 149) rfl ?_
            refine own_putF X26 hx hZ hown (ow_56 hw) e26 P4 P0 (Or.inl (ow_57 hw)) (ow_7 hw) (ty := .int) (by decide) rfl rfl (hb hby od_prog_190_method_13_149) (pc' := 152) rfl ?_
            intro T36 h36 X36 e36 W36
            have N36 := Fr.snoc X36 N0 g_rt
            refine own_iload X36 hx (hb hby od_prog_190_method_13_152) rfl (pc' := 154) rfl ?_
            refine own_aloadN X36 hx (hb hby od_prog_190_method_13_154) rfl rfl (pc' := 155) rfl ?_
            have f37 : Fld Z h36 rt "com/example/structlane/structlane/header/SourceText" "firstLine" "I" (.int (1 : Int32)) := (P3.other W36 (Or.inr (osn_32 hw)))
            refine own_getF X36 hx hZ hown (ow_18 hw) e36 f37 (hb hby od_prog_190_method_13_155) (pc' := 158) rfl ?_
            intro T38 X38 e38
            refine own_iadd X38 hx (hb hby od_prog_190_method_13_158) (pc' := 159) rfl ?_
            have k40 : Keep h0 h36 [rt] := (Keep.wr (Keep.refl _ _) W36 (Or.inl (List.mem_of_getElem? (i := 0) rfl)))
            have f41 : Fld Z h36 rt "com/example/structlane/structlane/header/SourceText" "lineStarts" "[I" (.ref rl) := (P1.other W36 (Or.inr (osn_33 hw)))
            have f42 : Fld Z h36 rt "com/example/structlane/structlane/header/SourceText" "lines" "I" (.int LL) := (P2.other W36 (Or.inr (osn_34 hw)))
            exact own_retI X38 hx hret hlk (hb hby od_prog_190_method_13_159) ⟨rfl, N36, (by rw [e38]; exact k40), (by rw [e38]; exact f41), (by rw [e38]; exact f42), (by rw [e38]; exact f37), (by rw [e38]; exact (P4.same W36))⟩ (by decide) (by decide)
          · refine own_icmpT X26 hx (hb hby od_prog_190_method_13_77) (flt c35).2.1 (by decide) (pc' := 88) rfl ?_
            refine own_iconst X26 hx (hb hby od_prog_190_method_13_88) (z := (0 : Int32)) rfl (pc' := 89) rfl ?_
            refine own_istore X26 hx (hb hby od_prog_190_method_13_89) (l' := #[.val (.ref rt), .val (.int u0), .val (.ref rl), .val (.int UL), .unset, .val (.int (0 : Int32)), .unset, .unset]) rfl (pc' := 91) rfl ?_
            refine own_aloadN X26 hx (hb hby od_prog_190_method_13_91) rfl rfl (pc' := 92) rfl ?_
            refine own_getF X26 hx hZ hown (ow_49 hw) e26 P2 (hb hby od_prog_190_method_13_92) (pc' := 95) rfl ?_
            intro T43 X43 e43
            refine own_istore X43 hx (hb hby od_prog_190_method_13_95) (l' := #[.val (.ref rt), .val (.int u0), .val (.ref rl), .val (.int UL), .unset, .val (.int (0 : Int32)), .val (.int LL), .unset]) rfl (pc' := 97) rfl ?_
            refine own_iload X43 hx (hb hby od_prog_190_method_13_97) rfl (pc' := 99) rfl ?_
            refine own_iload X43 hx (hb hby od_prog_190_method_13_99) rfl (pc' := 101) rfl ?_
            refine own_icmpF X43 hx (hb hby od_prog_190_method_13_101) (tlt (by rw [Int32.lt_iff_toInt_lt]; have q : (0 : Int32).toInt = 0 := rfl; omega)).2.1 (pc' := 104) rfl ?_
            refine own_iload X43 hx (hb hby od_prog_190_method_13_104) rfl (pc' := 106) rfl ?_
            refine own_iload X43 hx (hb hby od_prog_190_method_13_106) rfl (pc' := 108) rfl ?_
            refine own_iadd X43 hx (hb hby od_prog_190_method_13_108) (pc' := 109) rfl ?_
            refine own_iconst X43 hx (hb hby od_prog_190_method_13_109) (z := (1 : Int32)) rfl (pc' := 110) rfl ?_
            refine own_iushr X43 hx (hb hby od_prog_190_method_13_110) (pc' := 111) rfl ?_
            obtain ⟨md, hmd, hmb⟩ : ∃ md, ((((0 : Int32) + LL).toUInt32 >>> ((1 : Int32) &&& 31).toUInt32).toInt32) = md ∧ (0 : Int32).toInt ≤ md.toInt ∧ md.toInt < LL.toInt := ⟨_, rfl, own_mid (0 : Int32) LL (by decide) (by have q : (0 : Int32).toInt = 0 := rfl; omega) (by omega)⟩
            have hz0 : (0 : Int32).toInt = 0 := rfl
            rw [hmd]
            refine own_istore X43 hx (hb hby od_prog_190_method_13_111) (l' := #[.val (.ref rt), .val (.int u0), .val (.ref rl), .val (.int UL), .unset, .val (.int (0 : Int32)), .val (.int LL), .val (.int md)]) rfl (pc' := 113) rfl ?_
            refine own_aloadN X43 hx (hb hby od_prog_190_method_13_113) rfl rfl (pc' := 114) rfl ?_
            refine own_getF X43 hx hZ hown (ow_46 hw) e43 P1 (hb hby od_prog_190_method_13_114) (pc' := 117) rfl ?_
            intro T44 X44 e44
            refine own_iload X44 hx (hb hby od_prog_190_method_13_117) rfl (pc' := 119) rfl ?_
            refine own_iaload X44 hx hZ e44 P5 (x := (gl md.toNatClampNeg)) (own_ib64 (by have r4 := own_lt c3; have r5 := own_lt c5; have r6 := own_nlt c6; have r7 := own_neI c27; have r8 := own_nlt c35; omega)) rfl (hb hby od_prog_190_method_13_119) (pc' := 120) rfl ?_
            refine own_iloadN X44 hx (hb hby od_prog_190_method_13_120) rfl (pc' := 121) rfl ?_
            by_cases c45 : u0 < (gl md.toNatClampNeg)
            · refine own_icmpT X44 hx (hb hby od_prog_190_method_13_121) (tlt c45).2.2.1 (by decide) (pc' := 133) rfl ?_
              refine own_iload X44 hx (hb hby od_prog_190_method_13_133) rfl (pc' := 135) rfl ?_
              refine own_istore X44 hx (hb hby od_prog_190_method_13_135) (l' := #[.val (.ref rt), .val (.int u0), .val (.ref rl), .val (.int UL), .unset, .val (.int (0 : Int32)), .val (.int md), .val (.int md)]) rfl (pc' := 137) rfl ?_
              refine own_goto X44 hx (hb hby od_prog_190_method_13_137) (by decide) (pc' := 97) rfl ?_
              have am := own_at HH md (by omega)
              have r4 := own_lt c3
              have r5 := own_lt c5
              have r6 := own_nlt c6
              have r7 := own_neI c27
              have r8 := own_nlt c35
              have r9 := own_lt c45
              have bm := own_p1 md (by omega)
              refine own_bs hw hx hby hown hZ rt rl gl u0 LL UL tt HH hT hL P1 P5 64 _ (0 : Int32) md md X44 e44 (by omega) ⟨by omega, by omega, by omega, by omega⟩ ?_
              intro T46 md46 X46 e46
              refine own_iload X46 hx (hb hby od_prog_190_method_13_140) rfl (pc' := 142) rfl ?_
              refine own_iconst X46 hx (hb hby od_prog_190_method_13_142) (z := (1 : Int32)) rfl (pc' := 143) rfl ?_
              refine own_isub X46 hx (hb hby od_prog_190_method_13_143) (pc' := 144) rfl ?_
              refine own_istore X46 hx (hb hby od_prog_190_method_13_144) (l' := #[.val (.ref rt), .val (.int u0), .val (.ref rl), .val (.int UL), .val (.int ((tt + (1 : Int32)) - (1 : Int32))), .val (.int (tt + (1 : Int32))), .val (.int (tt + (1 : Int32))), .val (.int md46)]) rfl (pc' := 146) rfl ?_
              have eF := own_m1 tt
              refine own_cast (S' := T46.setTop (mkF m 146 #[.val (.ref rt), .val (.int u0), .val (.ref rl), .val (.int UL), .val (.int tt), .val (.int (tt + (1 : Int32))), .val (.int (tt + (1 : Int32))), .val (.int md46)] [])) (by rw [eF]) ?_
              refine own_aloadN X46 hx (hb hby od_prog_190_method_13_146) rfl rfl (pc' := 147) rfl ?_
              refine own_iload X46 hx (hb hby od_prog_190_method_13_147) rfl (pc' := 149) rfl ?_
              refine own_putF X46 hx hZ hown (ow_56 hw) e46 P4 P0 (Or.inl (ow_57 hw)) (ow_7 hw) (ty := .int) (by decide) rfl rfl (hb hby od_prog_190_method_13_149) (pc' := 152) rfl ?_
              intro T47 h47 X47 e47 W47
              have N47 := Fr.snoc X47 N0 g_rt
              refine own_iload X47 hx (hb hby od_prog_190_method_13_152) rfl (pc' := 154) rfl ?_
              refine own_aloadN X47 hx (hb hby od_prog_190_method_13_154) rfl rfl (pc' := 155) rfl ?_
              have f48 : Fld Z h47 rt "com/example/structlane/structlane/header/SourceText" "firstLine" "I" (.int (1 : Int32)) := (P3.other W47 (Or.inr (osn_32 hw)))
              refine own_getF X47 hx hZ hown (ow_18 hw) e47 f48 (hb hby od_prog_190_method_13_155) (pc' := 158) rfl ?_
              intro T49 X49 e49
              refine own_iadd X49 hx (hb hby od_prog_190_method_13_158) (pc' := 159) rfl ?_
              have k51 : Keep h0 h47 [rt] := (Keep.wr (Keep.refl _ _) W47 (Or.inl (List.mem_of_getElem? (i := 0) rfl)))
              have f52 : Fld Z h47 rt "com/example/structlane/structlane/header/SourceText" "lineStarts" "[I" (.ref rl) := (P1.other W47 (Or.inr (osn_33 hw)))
              have f53 : Fld Z h47 rt "com/example/structlane/structlane/header/SourceText" "lines" "I" (.int LL) := (P2.other W47 (Or.inr (osn_34 hw)))
              exact own_retI X49 hx hret hlk (hb hby od_prog_190_method_13_159) ⟨rfl, N47, (by rw [e49]; exact k51), (by rw [e49]; exact f52), (by rw [e49]; exact f53), (by rw [e49]; exact f48), (by rw [e49]; exact (P4.same W47))⟩ (by decide) (by decide)
            · refine own_icmpF X44 hx (hb hby od_prog_190_method_13_121) (flt c45).2.2.1 (pc' := 124) rfl ?_
              refine own_iload X44 hx (hb hby od_prog_190_method_13_124) rfl (pc' := 126) rfl ?_
              refine own_iconst X44 hx (hb hby od_prog_190_method_13_126) (z := (1 : Int32)) rfl (pc' := 127) rfl ?_
              refine own_iadd X44 hx (hb hby od_prog_190_method_13_127) (pc' := 128) rfl ?_
              refine own_istore X44 hx (hb hby od_prog_190_method_13_128) (l' := #[.val (.ref rt), .val (.int u0), .val (.ref rl), .val (.int UL), .unset, .val (.int (md + (1 : Int32))), .val (.int LL), .val (.int md)]) rfl (pc' := 130) rfl ?_
              refine own_goto X44 hx (hb hby od_prog_190_method_13_130) (by decide) (pc' := 137) rfl ?_
              refine own_goto X44 hx (hb hby od_prog_190_method_13_137) (by decide) (pc' := 97) rfl ?_
              have am := own_at HH md (by omega)
              have r4 := own_lt c3
              have r5 := own_lt c5
              have r6 := own_nlt c6
              have r7 := own_neI c27
              have r8 := own_nlt c35
              have r9 := own_nlt c45
              have bm := own_p1 md (by omega)
              refine own_bs hw hx hby hown hZ rt rl gl u0 LL UL tt HH hT hL P1 P5 64 _ (md + (1 : Int32)) LL md X44 e44 (by omega) ⟨by omega, by omega, by omega, by omega⟩ ?_
              intro T54 md54 X54 e54
              refine own_iload X54 hx (hb hby od_prog_190_method_13_140) rfl (pc' := 142) rfl ?_
              refine own_iconst X54 hx (hb hby od_prog_190_method_13_142) (z := (1 : Int32)) rfl (pc' := 143) rfl ?_
              refine own_isub X54 hx (hb hby od_prog_190_method_13_143) (pc' := 144) rfl ?_
              refine own_istore X54 hx (hb hby od_prog_190_method_13_144) (l' := #[.val (.ref rt), .val (.int u0), .val (.ref rl), .val (.int UL), .val (.int ((tt + (1 : Int32)) - (1 : Int32))), .val (.int (tt + (1 : Int32))), .val (.int (tt + (1 : Int32))), .val (.int md54)]) rfl (pc' := 146) rfl ?_
              have eF := own_m1 tt
              refine own_cast (S' := T54.setTop (mkF m 146 #[.val (.ref rt), .val (.int u0), .val (.ref rl), .val (.int UL), .val (.int tt), .val (.int (tt + (1 : Int32))), .val (.int (tt + (1 : Int32))), .val (.int md54)] [])) (by rw [eF]) ?_
              refine own_aloadN X54 hx (hb hby od_prog_190_method_13_146) rfl rfl (pc' := 147) rfl ?_
              refine own_iload X54 hx (hb hby od_prog_190_method_13_147) rfl (pc' := 149) rfl ?_
              refine own_putF X54 hx hZ hown (ow_56 hw) e54 P4 P0 (Or.inl (ow_57 hw)) (ow_7 hw) (ty := .int) (by decide) rfl rfl (hb hby od_prog_190_method_13_149) (pc' := 152) rfl ?_
              intro T55 h55 X55 e55 W55
              have N55 := Fr.snoc X55 N0 g_rt
              refine own_iload X55 hx (hb hby od_prog_190_method_13_152) rfl (pc' := 154) rfl ?_
              refine own_aloadN X55 hx (hb hby od_prog_190_method_13_154) rfl rfl (pc' := 155) rfl ?_
              have f56 : Fld Z h55 rt "com/example/structlane/structlane/header/SourceText" "firstLine" "I" (.int (1 : Int32)) := (P3.other W55 (Or.inr (osn_32 hw)))
              refine own_getF X55 hx hZ hown (ow_18 hw) e55 f56 (hb hby od_prog_190_method_13_155) (pc' := 158) rfl ?_
              intro T57 X57 e57
              refine own_iadd X57 hx (hb hby od_prog_190_method_13_158) (pc' := 159) rfl ?_
              have k59 : Keep h0 h55 [rt] := (Keep.wr (Keep.refl _ _) W55 (Or.inl (List.mem_of_getElem? (i := 0) rfl)))
              have f60 : Fld Z h55 rt "com/example/structlane/structlane/header/SourceText" "lineStarts" "[I" (.ref rl) := (P1.other W55 (Or.inr (osn_33 hw)))
              have f61 : Fld Z h55 rt "com/example/structlane/structlane/header/SourceText" "lines" "I" (.int LL) := (P2.other W55 (Or.inr (osn_34 hw)))
              exact own_retI X57 hx hret hlk (hb hby od_prog_190_method_13_159) ⟨rfl, N55, (by rw [e57]; exact k59), (by rw [e57]; exact f60), (by rw [e57]; exact f61), (by rw [e57]; exact f56), (by rw [e57]; exact (P4.same W55))⟩ (by decide) (by decide)
    · refine own_icmpT X4 hx (hb hby od_prog_190_method_13_49) (flt c5).2.1 (by decide) (pc' := 88) rfl ?_
      refine own_iconst X4 hx (hb hby od_prog_190_method_13_88) (z := (0 : Int32)) rfl (pc' := 89) rfl ?_
      refine own_istore X4 hx (hb hby od_prog_190_method_13_89) (l' := #[.val (.ref rt), .val (.int u0), .val (.ref rl), .val (.int UL), .unset, .val (.int (0 : Int32)), .unset, .unset]) rfl (pc' := 91) rfl ?_
      refine own_aloadN X4 hx (hb hby od_prog_190_method_13_91) rfl rfl (pc' := 92) rfl ?_
      refine own_getF X4 hx hZ hown (ow_49 hw) e4 P2 (hb hby od_prog_190_method_13_92) (pc' := 95) rfl ?_
      intro T62 X62 e62
      refine own_istore X62 hx (hb hby od_prog_190_method_13_95) (l' := #[.val (.ref rt), .val (.int u0), .val (.ref rl), .val (.int UL), .unset, .val (.int (0 : Int32)), .val (.int LL), .unset]) rfl (pc' := 97) rfl ?_
      refine own_iload X62 hx (hb hby od_prog_190_method_13_97) rfl (pc' := 99) rfl ?_
      refine own_iload X62 hx (hb hby od_prog_190_method_13_99) rfl (pc' := 101) rfl ?_
      refine own_icmpF X62 hx (hb hby od_prog_190_method_13_101) (tlt (by rw [Int32.lt_iff_toInt_lt]; have q : (0 : Int32).toInt = 0 := rfl; omega)).2.1 (pc' := 104) rfl ?_
      refine own_iload X62 hx (hb hby od_prog_190_method_13_104) rfl (pc' := 106) rfl ?_
      refine own_iload X62 hx (hb hby od_prog_190_method_13_106) rfl (pc' := 108) rfl ?_
      refine own_iadd X62 hx (hb hby od_prog_190_method_13_108) (pc' := 109) rfl ?_
      refine own_iconst X62 hx (hb hby od_prog_190_method_13_109) (z := (1 : Int32)) rfl (pc' := 110) rfl ?_
      refine own_iushr X62 hx (hb hby od_prog_190_method_13_110) (pc' := 111) rfl ?_
      obtain ⟨md, hmd, hmb⟩ : ∃ md, ((((0 : Int32) + LL).toUInt32 >>> ((1 : Int32) &&& 31).toUInt32).toInt32) = md ∧ (0 : Int32).toInt ≤ md.toInt ∧ md.toInt < LL.toInt := ⟨_, rfl, own_mid (0 : Int32) LL (by decide) (by have q : (0 : Int32).toInt = 0 := rfl; omega) (by omega)⟩
      have hz0 : (0 : Int32).toInt = 0 := rfl
      rw [hmd]
      refine own_istore X62 hx (hb hby od_prog_190_method_13_111) (l' := #[.val (.ref rt), .val (.int u0), .val (.ref rl), .val (.int UL), .unset, .val (.int (0 : Int32)), .val (.int LL), .val (.int md)]) rfl (pc' := 113) rfl ?_
      refine own_aloadN X62 hx (hb hby od_prog_190_method_13_113) rfl rfl (pc' := 114) rfl ?_
      refine own_getF X62 hx hZ hown (ow_46 hw) e62 P1 (hb hby od_prog_190_method_13_114) (pc' := 117) rfl ?_
      intro T63 X63 e63
      refine own_iload X63 hx (hb hby od_prog_190_method_13_117) rfl (pc' := 119) rfl ?_
      refine own_iaload X63 hx hZ e63 P5 (x := (gl md.toNatClampNeg)) (own_ib64 (by have r4 := own_lt c3; have r5 := own_nlt c5; omega)) rfl (hb hby od_prog_190_method_13_119) (pc' := 120) rfl ?_
      refine own_iloadN X63 hx (hb hby od_prog_190_method_13_120) rfl (pc' := 121) rfl ?_
      by_cases c64 : u0 < (gl md.toNatClampNeg)
      · refine own_icmpT X63 hx (hb hby od_prog_190_method_13_121) (tlt c64).2.2.1 (by decide) (pc' := 133) rfl ?_
        refine own_iload X63 hx (hb hby od_prog_190_method_13_133) rfl (pc' := 135) rfl ?_
        refine own_istore X63 hx (hb hby od_prog_190_method_13_135) (l' := #[.val (.ref rt), .val (.int u0), .val (.ref rl), .val (.int UL), .unset, .val (.int (0 : Int32)), .val (.int md), .val (.int md)]) rfl (pc' := 137) rfl ?_
        refine own_goto X63 hx (hb hby od_prog_190_method_13_137) (by decide) (pc' := 97) rfl ?_
        have am := own_at HH md (by omega)
        have r4 := own_lt c3
        have r5 := own_nlt c5
        have r6 := own_lt c64
        have bm := own_p1 md (by omega)
        refine own_bs hw hx hby hown hZ rt rl gl u0 LL UL tt HH hT hL P1 P5 64 _ (0 : Int32) md md X63 e63 (by omega) ⟨by omega, by omega, by omega, by omega⟩ ?_
        intro T65 md65 X65 e65
        refine own_iload X65 hx (hb hby od_prog_190_method_13_140) rfl (pc' := 142) rfl ?_
        refine own_iconst X65 hx (hb hby od_prog_190_method_13_142) (z := (1 : Int32)) rfl (pc' := 143) rfl ?_
        refine own_isub X65 hx (hb hby od_prog_190_method_13_143) (pc' := 144) rfl ?_
        refine own_istore X65 hx (hb hby od_prog_190_method_13_144) (l' := #[.val (.ref rt), .val (.int u0), .val (.ref rl), .val (.int UL), .val (.int ((tt + (1 : Int32)) - (1 : Int32))), .val (.int (tt + (1 : Int32))), .val (.int (tt + (1 : Int32))), .val (.int md65)]) rfl (pc' := 146) rfl ?_
        have eF := own_m1 tt
        refine own_cast (S' := T65.setTop (mkF m 146 #[.val (.ref rt), .val (.int u0), .val (.ref rl), .val (.int UL), .val (.int tt), .val (.int (tt + (1 : Int32))), .val (.int (tt + (1 : Int32))), .val (.int md65)] [])) (by rw [eF]) ?_
        refine own_aloadN X65 hx (hb hby od_prog_190_method_13_146) rfl rfl (pc' := 147) rfl ?_
        refine own_iload X65 hx (hb hby od_prog_190_method_13_147) rfl (pc' := 149) rfl ?_
        refine own_putF X65 hx hZ hown (ow_56 hw) e65 P4 P0 (Or.inl (ow_57 hw)) (ow_7 hw) (ty := .int) (by decide) rfl rfl (hb hby od_prog_190_method_13_149) (pc' := 152) rfl ?_
        intro T66 h66 X66 e66 W66
        have N66 := Fr.snoc X66 N0 g_rt
        refine own_iload X66 hx (hb hby od_prog_190_method_13_152) rfl (pc' := 154) rfl ?_
        refine own_aloadN X66 hx (hb hby od_prog_190_method_13_154) rfl rfl (pc' := 155) rfl ?_
        have f67 : Fld Z h66 rt "com/example/structlane/structlane/header/SourceText" "firstLine" "I" (.int (1 : Int32)) := (P3.other W66 (Or.inr (osn_32 hw)))
        refine own_getF X66 hx hZ hown (ow_18 hw) e66 f67 (hb hby od_prog_190_method_13_155) (pc' := 158) rfl ?_
        intro T68 X68 e68
        refine own_iadd X68 hx (hb hby od_prog_190_method_13_158) (pc' := 159) rfl ?_
        have k70 : Keep h0 h66 [rt] := (Keep.wr (Keep.refl _ _) W66 (Or.inl (List.mem_of_getElem? (i := 0) rfl)))
        have f71 : Fld Z h66 rt "com/example/structlane/structlane/header/SourceText" "lineStarts" "[I" (.ref rl) := (P1.other W66 (Or.inr (osn_33 hw)))
        have f72 : Fld Z h66 rt "com/example/structlane/structlane/header/SourceText" "lines" "I" (.int LL) := (P2.other W66 (Or.inr (osn_34 hw)))
        exact own_retI X68 hx hret hlk (hb hby od_prog_190_method_13_159) ⟨rfl, N66, (by rw [e68]; exact k70), (by rw [e68]; exact f71), (by rw [e68]; exact f72), (by rw [e68]; exact f67), (by rw [e68]; exact (P4.same W66))⟩ (by decide) (by decide)
      · refine own_icmpF X63 hx (hb hby od_prog_190_method_13_121) (flt c64).2.2.1 (pc' := 124) rfl ?_
        refine own_iload X63 hx (hb hby od_prog_190_method_13_124) rfl (pc' := 126) rfl ?_
        refine own_iconst X63 hx (hb hby od_prog_190_method_13_126) (z := (1 : Int32)) rfl (pc' := 127) rfl ?_
        refine own_iadd X63 hx (hb hby od_prog_190_method_13_127) (pc' := 128) rfl ?_
        refine own_istore X63 hx (hb hby od_prog_190_method_13_128) (l' := #[.val (.ref rt), .val (.int u0), .val (.ref rl), .val (.int UL), .unset, .val (.int (md + (1 : Int32))), .val (.int LL), .val (.int md)]) rfl (pc' := 130) rfl ?_
        refine own_goto X63 hx (hb hby od_prog_190_method_13_130) (by decide) (pc' := 137) rfl ?_
        refine own_goto X63 hx (hb hby od_prog_190_method_13_137) (by decide) (pc' := 97) rfl ?_
        have am := own_at HH md (by omega)
        have r4 := own_lt c3
        have r5 := own_nlt c5
        have r6 := own_nlt c64
        have bm := own_p1 md (by omega)
        refine own_bs hw hx hby hown hZ rt rl gl u0 LL UL tt HH hT hL P1 P5 64 _ (md + (1 : Int32)) LL md X63 e63 (by omega) ⟨by omega, by omega, by omega, by omega⟩ ?_
        intro T73 md73 X73 e73
        refine own_iload X73 hx (hb hby od_prog_190_method_13_140) rfl (pc' := 142) rfl ?_
        refine own_iconst X73 hx (hb hby od_prog_190_method_13_142) (z := (1 : Int32)) rfl (pc' := 143) rfl ?_
        refine own_isub X73 hx (hb hby od_prog_190_method_13_143) (pc' := 144) rfl ?_
        refine own_istore X73 hx (hb hby od_prog_190_method_13_144) (l' := #[.val (.ref rt), .val (.int u0), .val (.ref rl), .val (.int UL), .val (.int ((tt + (1 : Int32)) - (1 : Int32))), .val (.int (tt + (1 : Int32))), .val (.int (tt + (1 : Int32))), .val (.int md73)]) rfl (pc' := 146) rfl ?_
        have eF := own_m1 tt
        refine own_cast (S' := T73.setTop (mkF m 146 #[.val (.ref rt), .val (.int u0), .val (.ref rl), .val (.int UL), .val (.int tt), .val (.int (tt + (1 : Int32))), .val (.int (tt + (1 : Int32))), .val (.int md73)] [])) (by rw [eF]) ?_
        refine own_aloadN X73 hx (hb hby od_prog_190_method_13_146) rfl rfl (pc' := 147) rfl ?_
        refine own_iload X73 hx (hb hby od_prog_190_method_13_147) rfl (pc' := 149) rfl ?_
        refine own_putF X73 hx hZ hown (ow_56 hw) e73 P4 P0 (Or.inl (ow_57 hw)) (ow_7 hw) (ty := .int) (by decide) rfl rfl (hb hby od_prog_190_method_13_149) (pc' := 152) rfl ?_
        intro T74 h74 X74 e74 W74
        have N74 := Fr.snoc X74 N0 g_rt
        refine own_iload X74 hx (hb hby od_prog_190_method_13_152) rfl (pc' := 154) rfl ?_
        refine own_aloadN X74 hx (hb hby od_prog_190_method_13_154) rfl rfl (pc' := 155) rfl ?_
        have f75 : Fld Z h74 rt "com/example/structlane/structlane/header/SourceText" "firstLine" "I" (.int (1 : Int32)) := (P3.other W74 (Or.inr (osn_32 hw)))
        refine own_getF X74 hx hZ hown (ow_18 hw) e74 f75 (hb hby od_prog_190_method_13_155) (pc' := 158) rfl ?_
        intro T76 X76 e76
        refine own_iadd X76 hx (hb hby od_prog_190_method_13_158) (pc' := 159) rfl ?_
        have k78 : Keep h0 h74 [rt] := (Keep.wr (Keep.refl _ _) W74 (Or.inl (List.mem_of_getElem? (i := 0) rfl)))
        have f79 : Fld Z h74 rt "com/example/structlane/structlane/header/SourceText" "lineStarts" "[I" (.ref rl) := (P1.other W74 (Or.inr (osn_33 hw)))
        have f80 : Fld Z h74 rt "com/example/structlane/structlane/header/SourceText" "lines" "I" (.int LL) := (P2.other W74 (Or.inr (osn_34 hw)))
        exact own_retI X76 hx hret hlk (hb hby od_prog_190_method_13_159) ⟨rfl, N74, (by rw [e76]; exact k78), (by rw [e76]; exact f79), (by rw [e76]; exact f80), (by rw [e76]; exact f75), (by rw [e76]; exact (P4.same W74))⟩ (by decide) (by decide)
  · refine own_icmpF X2 hx (hb hby od_prog_190_method_13_14) (flt c3).2.2.1 (pc' := 17) rfl ?_
    refine own_iloadN X2 hx (hb hby od_prog_190_method_13_17) rfl (pc' := 18) rfl ?_
    refine own_iconst X2 hx (hb hby od_prog_190_method_13_18) (z := (1 : Int32)) rfl (pc' := 19) rfl ?_
    refine own_iadd X2 hx (hb hby od_prog_190_method_13_19) (pc' := 20) rfl ?_
    refine own_aloadN X2 hx (hb hby od_prog_190_method_13_20) rfl rfl (pc' := 21) rfl ?_
    refine own_getF X2 hx hZ hown (ow_49 hw) e2 P2 (hb hby od_prog_190_method_13_21) (pc' := 24) rfl ?_
    intro T81 X81 e81
    by_cases c82 : (UL + (1 : Int32)) = LL
    · refine own_icmpT X81 hx (hb hby od_prog_190_method_13_24) (teq c82).1 (by decide) (pc' := 36) rfl ?_
      refine own_iloadN X81 hx (hb hby od_prog_190_method_13_36) rfl (pc' := 37) rfl ?_
      refine own_istore X81 hx (hb hby od_prog_190_method_13_37) (l' := #[.val (.ref rt), .val (.int u0), .val (.ref rl), .val (.int UL), .val (.int UL), .unset, .unset, .unset]) rfl (pc' := 39) rfl ?_
      refine own_goto X81 hx (hb hby od_prog_190_method_13_39) (by decide) (pc' := 146) rfl ?_
      have eF : UL = tt := by
        have r4 := own_nlt c3
        have r5 := own_eqI c82
        have a0 := own_at HH UL (by omega)
        rw [← Int32.toInt_inj]
        omega
      refine own_cast (S' := T81.setTop (mkF m 146 #[.val (.ref rt), .val (.int u0), .val (.ref rl), .val (.int UL), .val (.int tt), .unset, .unset, .unset] [])) (by rw [eF]) ?_
      refine own_aloadN X81 hx (hb hby od_prog_190_method_13_146) rfl rfl (pc' := 147) rfl ?_
      refine own_iload X81 hx (hb hby od_prog_190_method_13_147) rfl (pc' := 149) rfl ?_
      refine own_putF X81 hx hZ hown (ow_56 hw) e81 P4 P0 (Or.inl (ow_57 hw)) (ow_7 hw) (ty := .int) (by decide) rfl rfl (hb hby od_prog_190_method_13_149) (pc' := 152) rfl ?_
      intro T83 h83 X83 e83 W83
      have N83 := Fr.snoc X83 N0 g_rt
      refine own_iload X83 hx (hb hby od_prog_190_method_13_152) rfl (pc' := 154) rfl ?_
      refine own_aloadN X83 hx (hb hby od_prog_190_method_13_154) rfl rfl (pc' := 155) rfl ?_
      have f84 : Fld Z h83 rt "com/example/structlane/structlane/header/SourceText" "firstLine" "I" (.int (1 : Int32)) := (P3.other W83 (Or.inr (osn_32 hw)))
      refine own_getF X83 hx hZ hown (ow_18 hw) e83 f84 (hb hby od_prog_190_method_13_155) (pc' := 158) rfl ?_
      intro T85 X85 e85
      refine own_iadd X85 hx (hb hby od_prog_190_method_13_158) (pc' := 159) rfl ?_
      have k87 : Keep h0 h83 [rt] := (Keep.wr (Keep.refl _ _) W83 (Or.inl (List.mem_of_getElem? (i := 0) rfl)))
      have f88 : Fld Z h83 rt "com/example/structlane/structlane/header/SourceText" "lineStarts" "[I" (.ref rl) := (P1.other W83 (Or.inr (osn_33 hw)))
      have f89 : Fld Z h83 rt "com/example/structlane/structlane/header/SourceText" "lines" "I" (.int LL) := (P2.other W83 (Or.inr (osn_34 hw)))
      exact own_retI X85 hx hret hlk (hb hby od_prog_190_method_13_159) ⟨rfl, N83, (by rw [e85]; exact k87), (by rw [e85]; exact f88), (by rw [e85]; exact f89), (by rw [e85]; exact f84), (by rw [e85]; exact (P4.same W83))⟩ (by decide) (by decide)
    · refine own_icmpF X81 hx (hb hby od_prog_190_method_13_24) (feq c82).1 (pc' := 27) rfl ?_
      refine own_iloadN X81 hx (hb hby od_prog_190_method_13_27) rfl (pc' := 28) rfl ?_
      refine own_aloadN X81 hx (hb hby od_prog_190_method_13_28) rfl rfl (pc' := 29) rfl ?_
      refine own_iloadN X81 hx (hb hby od_prog_190_method_13_29) rfl (pc' := 30) rfl ?_
      refine own_iconst X81 hx (hb hby od_prog_190_method_13_30) (z := (1 : Int32)) rfl (pc' := 31) rfl ?_
      refine own_iadd X81 hx (hb hby od_prog_190_method_13_31) (pc' := 32) rfl ?_
      refine own_iaload X81 hx hZ e81 P5 (x := (gl (UL + (1 : Int32)).toNatClampNeg)) (own_ib64 (by have r4 := own_nlt c3; have r5 := own_neI c82; omega)) rfl (hb hby od_prog_190_method_13_32) (pc' := 33) rfl ?_
      by_cases c90 : u0 < (gl (UL + (1 : Int32)).toNatClampNeg)
      · refine own_icmpF X81 hx (hb hby od_prog_190_method_13_33) (tlt c90).2.1 (pc' := 36) rfl ?_
        refine own_iloadN X81 hx (hb hby od_prog_190_method_13_36) rfl (pc' := 37) rfl ?_
        refine own_istore X81 hx (hb hby od_prog_190_method_13_37) (l' := #[.val (.ref rt), .val (.int u0), .val (.ref rl), .val (.int UL), .val (.int UL), .unset, .unset, .unset]) rfl (pc' := 39) rfl ?_
        refine own_goto X81 hx (hb hby od_prog_190_method_13_39) (by decide) (pc' := 146) rfl ?_
        have eF : UL = tt := by
          have r4 := own_nlt c3
          have r5 := own_neI c82
          have r6 := own_lt c90
          have a0 := own_at HH UL (by omega)
          have a1 := own_at HH (UL + (1 : Int32)) (by omega)
          rw [← Int32.toInt_inj]
          omega
        refine own_cast (S' := T81.setTop (mkF m 146 #[.val (.ref rt), .val (.int u0), .val (.ref rl), .val (.int UL), .val (.int tt), .unset, .unset, .unset] [])) (by rw [eF]) ?_
        refine own_aloadN X81 hx (hb hby od_prog_190_method_13_146) rfl rfl (pc' := 147) rfl ?_
        refine own_iload X81 hx (hb hby od_prog_190_method_13_147) rfl (pc' := 149) rfl ?_
        refine own_putF X81 hx hZ hown (ow_56 hw) e81 P4 P0 (Or.inl (ow_57 hw)) (ow_7 hw) (ty := .int) (by decide) rfl rfl (hb hby od_prog_190_method_13_149) (pc' := 152) rfl ?_
        intro T91 h91 X91 e91 W91
        have N91 := Fr.snoc X91 N0 g_rt
        refine own_iload X91 hx (hb hby od_prog_190_method_13_152) rfl (pc' := 154) rfl ?_
        refine own_aloadN X91 hx (hb hby od_prog_190_method_13_154) rfl rfl (pc' := 155) rfl ?_
        have f92 : Fld Z h91 rt "com/example/structlane/structlane/header/SourceText" "firstLine" "I" (.int (1 : Int32)) := (P3.other W91 (Or.inr (osn_32 hw)))
        refine own_getF X91 hx hZ hown (ow_18 hw) e91 f92 (hb hby od_prog_190_method_13_155) (pc' := 158) rfl ?_
        intro T93 X93 e93
        refine own_iadd X93 hx (hb hby od_prog_190_method_13_158) (pc' := 159) rfl ?_
        have k95 : Keep h0 h91 [rt] := (Keep.wr (Keep.refl _ _) W91 (Or.inl (List.mem_of_getElem? (i := 0) rfl)))
        have f96 : Fld Z h91 rt "com/example/structlane/structlane/header/SourceText" "lineStarts" "[I" (.ref rl) := (P1.other W91 (Or.inr (osn_33 hw)))
        have f97 : Fld Z h91 rt "com/example/structlane/structlane/header/SourceText" "lines" "I" (.int LL) := (P2.other W91 (Or.inr (osn_34 hw)))
        exact own_retI X93 hx hret hlk (hb hby od_prog_190_method_13_159) ⟨rfl, N91, (by rw [e93]; exact k95), (by rw [e93]; exact f96), (by rw [e93]; exact f97), (by rw [e93]; exact f92), (by rw [e93]; exact (P4.same W91))⟩ (by decide) (by decide)
      · refine own_icmpT X81 hx (hb hby od_prog_190_method_13_33) (flt c90).2.1 (by decide) (pc' := 42) rfl ?_
        refine own_iloadN X81 hx (hb hby od_prog_190_method_13_42) rfl (pc' := 43) rfl ?_
        refine own_iconst X81 hx (hb hby od_prog_190_method_13_43) (z := (1 : Int32)) rfl (pc' := 44) rfl ?_
        refine own_iadd X81 hx (hb hby od_prog_190_method_13_44) (pc' := 45) rfl ?_
        refine own_aloadN X81 hx (hb hby od_prog_190_method_13_45) rfl rfl (pc' := 46) rfl ?_
        refine own_getF X81 hx hZ hown (ow_49 hw) e81 P2 (hb hby od_prog_190_method_13_46) (pc' := 49) rfl ?_
        intro T98 X98 e98
        by_cases c99 : (UL + (1 : Int32)) < LL
        · refine own_icmpF X98 hx (hb hby od_prog_190_method_13_49) (tlt c99).2.1 (pc' := 52) rfl ?_
          refine own_aloadN X98 hx (hb hby od_prog_190_method_13_52) rfl rfl (pc' := 53) rfl ?_
          refine own_iloadN X98 hx (hb hby od_prog_190_method_13_53) rfl (pc' := 54) rfl ?_
          refine own_iconst X98 hx (hb hby od_prog_190_method_13_54) (z := (1 : Int32)) rfl (pc' := 55) rfl ?_
          refine own_iadd X98 hx (hb hby od_prog_190_method_13_55) (pc' := 56) rfl ?_
          refine own_iaload X98 hx hZ e98 P5 (x := (gl (UL + (1 : Int32)).toNatClampNeg)) (own_ib64 (by have r4 := own_nlt c3; have r5 := own_neI c82; have r6 := own_nlt c90; have r7 := own_lt c99; omega)) rfl (hb hby od_prog_190_method_13_56) (pc' := 57) rfl ?_
          refine own_iloadN X98 hx (hb hby od_prog_190_method_13_57) rfl (pc' := 58) rfl ?_
          refine own_icmpF X98 hx (hb hby od_prog_190_method_13_58) (flt c90).2.2.1 (pc' := 61) rfl ?_
          refine own_iloadN X98 hx (hb hby od_prog_190_method_13_61) rfl (pc' := 62) rfl ?_
          refine own_iconst X98 hx (hb hby od_prog_190_method_13_62) (z := (2 : Int32)) rfl (pc' := 63) rfl ?_
          refine own_iadd X98 hx (hb hby od_prog_190_method_13_63) (pc' := 64) rfl ?_
          refine own_aloadN X98 hx (hb hby od_prog_190_method_13_64) rfl rfl (pc' := 65) rfl ?_
          refine own_getF X98 hx hZ hown (ow_49 hw) e98 P2 (hb hby od_prog_190_method_13_65) (pc' := 68) rfl ?_
          intro T100 X100 e100
          by_cases c101 : (UL + (2 : Int32)) = LL
          · refine own_icmpT X100 hx (hb hby od_prog_190_method_13_68) (teq c101).1 (by decide) (pc' := 80) rfl ?_
            refine own_iloadN X100 hx (hb hby od_prog_190_method_13_80) rfl (pc' := 81) rfl ?_
            refine own_iconst X100 hx (hb hby od_prog_190_method_13_81) (z := (1 : Int32)) rfl (pc' := 82) rfl ?_
            refine own_iadd X100 hx (hb hby od_prog_190_method_13_82) (pc' := 83) rfl ?_
            refine own_istore X100 hx (hb hby od_prog_190_method_13_83) (l' := #[.val (.ref rt), .val (.int u0), .val (.ref rl), .val (.int UL), .val (.int (UL + (1 : Int32))), .unset, .unset, .unset]) rfl (pc' := 85) rfl ?_
            refine own_goto X100 hx (hb hby od_prog_190_method_13_85) (by decide) (pc' := 146) rfl ?_
            have eF : (UL + (1 : Int32)) = tt := by
              have r4 := own_nlt c3
              have r5 := own_neI c82
              have r6 := own_nlt c90
              have r7 := own_lt c99
              have r8 := own_eqI c101
              have a0 := own_at HH UL (by omega)
              have a1 := own_at HH (UL + (1 : Int32)) (by omega)
              rw [← Int32.toInt_inj]
              omega
            refine own_cast (S' := T100.setTop (mkF m 146 #[.val (.ref rt), .val (.int u0), .val (.ref rl), .val (.int UL), .val (.int tt), .unset, .unset, .unset] [])) (by rw [eF]) ?_
            refine own_aloadN X100 hx (hb hby od_prog_190_method_13_146) rfl rfl (pc' := 147) rfl ?_
            refine own_iload X100 hx (hb hby od_prog_190_method_13_147) rfl (pc' := 149) rfl ?_
            refine own_putF X100 hx hZ hown (ow_56 hw) e100 P4 P0 (Or.inl (ow_57 hw)) (ow_7 hw) (ty := .int) (by decide) rfl rfl (hb hby od_prog_190_method_13_149) (pc' := 152) rfl ?_
            intro T102 h102 X102 e102 W102
            have N102 := Fr.snoc X102 N0 g_rt
            refine own_iload X102 hx (hb hby od_prog_190_method_13_152) rfl (pc' := 154) rfl ?_
            refine own_aloadN X102 hx (hb hby od_prog_190_method_13_154) rfl rfl (pc' := 155) rfl ?_
            have f103 : Fld Z h102 rt "com/example/structlane/structlane/header/SourceText" "firstLine" "I" (.int (1 : Int32)) := (P3.other W102 (Or.inr (osn_32 hw)))
            refine own_getF X102 hx hZ hown (ow_18 hw) e102 f103 (hb hby od_prog_190_method_13_155) (pc' := 158) rfl ?_
            intro T104 X104 e104
            refine own_iadd X104 hx (hb hby od_prog_190_method_13_158) (pc' := 159) rfl ?_
            have k106 : Keep h0 h102 [rt] := (Keep.wr (Keep.refl _ _) W102 (Or.inl (List.mem_of_getElem? (i := 0) rfl)))
            have f107 : Fld Z h102 rt "com/example/structlane/structlane/header/SourceText" "lineStarts" "[I" (.ref rl) := (P1.other W102 (Or.inr (osn_33 hw)))
            have f108 : Fld Z h102 rt "com/example/structlane/structlane/header/SourceText" "lines" "I" (.int LL) := (P2.other W102 (Or.inr (osn_34 hw)))
            exact own_retI X104 hx hret hlk (hb hby od_prog_190_method_13_159) ⟨rfl, N102, (by rw [e104]; exact k106), (by rw [e104]; exact f107), (by rw [e104]; exact f108), (by rw [e104]; exact f103), (by rw [e104]; exact (P4.same W102))⟩ (by decide) (by decide)
          · refine own_icmpF X100 hx (hb hby od_prog_190_method_13_68) (feq c101).1 (pc' := 71) rfl ?_
            refine own_iloadN X100 hx (hb hby od_prog_190_method_13_71) rfl (pc' := 72) rfl ?_
            refine own_aloadN X100 hx (hb hby od_prog_190_method_13_72) rfl rfl (pc' := 73) rfl ?_
            refine own_iloadN X100 hx (hb hby od_prog_190_method_13_73) rfl (pc' := 74) rfl ?_
            refine own_iconst X100 hx (hb hby od_prog_190_method_13_74) (z := (2 : Int32)) rfl (pc' := 75) rfl ?_
            refine own_iadd X100 hx (hb hby od_prog_190_method_13_75) (pc' := 76) rfl ?_
            refine own_iaload X100 hx hZ e100 P5 (x := (gl (UL + (2 : Int32)).toNatClampNeg)) (own_ib64 (by have r4 := own_nlt c3; have r5 := own_neI c82; have r6 := own_nlt c90; have r7 := own_lt c99; have r8 := own_neI c101; omega)) rfl (hb hby od_prog_190_method_13_76) (pc' := 77) rfl ?_
            by_cases c109 : u0 < (gl (UL + (2 : Int32)).toNatClampNeg)
            · refine own_icmpF X100 hx (hb hby od_prog_190_method_13_77) (tlt c109).2.1 (pc' := 80) rfl ?_
              refine own_iloadN X100 hx (hb hby od_prog_190_method_13_80) rfl (pc' := 81) rfl ?_
              refine own_iconst X100 hx (hb hby od_prog_190_method_13_81) (z := (1 : Int32)) rfl (pc' := 82) rfl ?_
              refine own_iadd X100 hx (hb hby od_prog_190_method_13_82) (pc' := 83) rfl ?_
              refine own_istore X100 hx (hb hby od_prog_190_method_13_83) (l' := #[.val (.ref rt), .val (.int u0), .val (.ref rl), .val (.int UL), .val (.int (UL + (1 : Int32))), .unset, .unset, .unset]) rfl (pc' := 85) rfl ?_
              refine own_goto X100 hx (hb hby od_prog_190_method_13_85) (by decide) (pc' := 146) rfl ?_
              have eF : (UL + (1 : Int32)) = tt := by
                have r4 := own_nlt c3
                have r5 := own_neI c82
                have r6 := own_nlt c90
                have r7 := own_lt c99
                have r8 := own_neI c101
                have r9 := own_lt c109
                have a0 := own_at HH UL (by omega)
                have a1 := own_at HH (UL + (1 : Int32)) (by omega)
                have a2 := own_at HH (UL + (2 : Int32)) (by omega)
                rw [← Int32.toInt_inj]
                omega
              refine own_cast (S' := T100.setTop (mkF m 146 #[.val (.ref rt), .val (.int u0), .val (.ref rl), .val (.int UL), .val (.int tt), .unset, .unset, .unset] [])) (by rw [eF]) ?_
              refine own_aloadN X100 hx (hb hby od_prog_190_method_13_146) rfl rfl (pc' := 147) rfl ?_
              refine own_iload X100 hx (hb hby od_prog_190_method_13_147) rfl (pc' := 149) rfl ?_
              refine own_putF X100 hx hZ hown (ow_56 hw) e100 P4 P0 (Or.inl (ow_57 hw)) (ow_7 hw) (ty := .int) (by decide) rfl rfl (hb hby od_prog_190_method_13_149) (pc' := 152) rfl ?_
              intro T110 h110 X110 e110 W110
              have N110 := Fr.snoc X110 N0 g_rt
              refine own_iload X110 hx (hb hby od_prog_190_method_13_152) rfl (pc' := 154) rfl ?_
              refine own_aloadN X110 hx (hb hby od_prog_190_method_13_154) rfl rfl (pc' := 155) rfl ?_
              have f111 : Fld Z h110 rt "com/example/structlane/structlane/header/SourceText" "firstLine" "I" (.int (1 : Int32)) := (P3.other W110 (Or.inr (osn_32 hw)))
              refine own_getF X110 hx hZ hown (ow_18 hw) e110 f111 (hb hby od_prog_190_method_13_155) (pc' := 158) rfl ?_
              intro T112 X112 e112
              refine own_iadd X112 hx (hb hby od_prog_190_method_13_158) (pc' := 159) rfl ?_
              have k114 : Keep h0 h110 [rt] := (Keep.wr (Keep.refl _ _) W110 (Or.inl (List.mem_of_getElem? (i := 0) rfl)))
              have f115 : Fld Z h110 rt "com/example/structlane/structlane/header/SourceText" "lineStarts" "[I" (.ref rl) := (P1.other W110 (Or.inr (osn_33 hw)))
              have f116 : Fld Z h110 rt "com/example/structlane/structlane/header/SourceText" "lines" "I" (.int LL) := (P2.other W110 (Or.inr (osn_34 hw)))
              exact own_retI X112 hx hret hlk (hb hby od_prog_190_method_13_159) ⟨rfl, N110, (by rw [e112]; exact k114), (by rw [e112]; exact f115), (by rw [e112]; exact f116), (by rw [e112]; exact f111), (by rw [e112]; exact (P4.same W110))⟩ (by decide) (by decide)
            · refine own_icmpT X100 hx (hb hby od_prog_190_method_13_77) (flt c109).2.1 (by decide) (pc' := 88) rfl ?_
              refine own_iconst X100 hx (hb hby od_prog_190_method_13_88) (z := (0 : Int32)) rfl (pc' := 89) rfl ?_
              refine own_istore X100 hx (hb hby od_prog_190_method_13_89) (l' := #[.val (.ref rt), .val (.int u0), .val (.ref rl), .val (.int UL), .unset, .val (.int (0 : Int32)), .unset, .unset]) rfl (pc' := 91) rfl ?_
              refine own_aloadN X100 hx (hb hby od_prog_190_method_13_91) rfl rfl (pc' := 92) rfl ?_
              refine own_getF X100 hx hZ hown (ow_49 hw) e100 P2 (hb hby od_prog_190_method_13_92) (pc' := 95) rfl ?_
              intro T117 X117 e117
              refine own_istore X117 hx (hb hby od_prog_190_method_13_95) (l' := #[.val (.ref rt), .val (.int u0), .val (.ref rl), .val (.int UL), .unset, .val (.int (0 : Int32)), .val (.int LL), .unset]) rfl (pc' := 97) rfl ?_
              refine own_iload X117 hx (hb hby od_prog_190_method_13_97) rfl (pc' := 99) rfl ?_
              refine own_iload X117 hx (hb hby od_prog_190_method_13_99) rfl (pc' := 101) rfl ?_
              refine own_icmpF X117 hx (hb hby od_prog_190_method_13_101) (tlt (by rw [Int32.lt_iff_toInt_lt]; have q : (0 : Int32).toInt = 0 := rfl; omega)).2.1 (pc' := 104) rfl ?_
              refine own_iload X117 hx (hb hby od_prog_190_method_13_104) rfl (pc' := 106) rfl ?_
              refine own_iload X117 hx (hb hby od_prog_190_method_13_106) rfl (pc' := 108) rfl ?_
              refine own_iadd X117 hx (hb hby od_prog_190_method_13_108) (pc' := 109) rfl ?_
              refine own_iconst X117 hx (hb hby od_prog_190_method_13_109) (z := (1 : Int32)) rfl (pc' := 110) rfl ?_
              refine own_iushr X117 hx (hb hby od_prog_190_method_13_110) (pc' := 111) rfl ?_
              obtain ⟨md, hmd, hmb⟩ : ∃ md, ((((0 : Int32) + LL).toUInt32 >>> ((1 : Int32) &&& 31).toUInt32).toInt32) = md ∧ (0 : Int32).toInt ≤ md.toInt ∧ md.toInt < LL.toInt := ⟨_, rfl, own_mid (0 : Int32) LL (by decide) (by have q : (0 : Int32).toInt = 0 := rfl; omega) (by omega)⟩
              have hz0 : (0 : Int32).toInt = 0 := rfl
              rw [hmd]
              refine own_istore X117 hx (hb hby od_prog_190_method_13_111) (l' := #[.val (.ref rt), .val (.int u0), .val (.ref rl), .val (.int UL), .unset, .val (.int (0 : Int32)), .val (.int LL), .val (.int md)]) rfl (pc' := 113) rfl ?_
              refine own_aloadN X117 hx (hb hby od_prog_190_method_13_113) rfl rfl (pc' := 114) rfl ?_
              refine own_getF X117 hx hZ hown (ow_46 hw) e117 P1 (hb hby od_prog_190_method_13_114) (pc' := 117) rfl ?_
              intro T118 X118 e118
              refine own_iload X118 hx (hb hby od_prog_190_method_13_117) rfl (pc' := 119) rfl ?_
              refine own_iaload X118 hx hZ e118 P5 (x := (gl md.toNatClampNeg)) (own_ib64 (by have r4 := own_nlt c3; have r5 := own_neI c82; have r6 := own_nlt c90; have r7 := own_lt c99; have r8 := own_neI c101; have r9 := own_nlt c109; omega)) rfl (hb hby od_prog_190_method_13_119) (pc' := 120) rfl ?_
              refine own_iloadN X118 hx (hb hby od_prog_190_method_13_120) rfl (pc' := 121) rfl ?_
              by_cases c119 : u0 < (gl md.toNatClampNeg)
              · refine own_icmpT X118 hx (hb hby od_prog_190_method_13_121) (tlt c119).2.2.1 (by decide) (pc' := 133) rfl ?_
                refine own_iload X118 hx (hb hby od_prog_190_method_13_133) rfl (pc' := 135) rfl ?_
                refine own_istore X118 hx (hb hby od_prog_190_method_13_135) (l' := #[.val (.ref rt), .val (.int u0), .val (.ref rl), .val (.int UL), .unset, .val (.int (0 : Int32)), .val (.int md), .val (.int md)]) rfl (pc' := 137) rfl ?_
                refine own_goto X118 hx (hb hby od_prog_190_method_13_137) (by decide) (pc' := 97) rfl ?_
                have am := own_at HH md (by omega)
                have r4 := own_nlt c3
                have r5 := own_neI c82
                have r6 := own_nlt c90
                have r7 := own_lt c99
                have r8 := own_neI c101
                have r9 := own_nlt c109
                have r10 := own_lt c119
                have bm := own_p1 md (by omega)
                refine own_bs hw hx hby hown hZ rt rl gl u0 LL UL tt HH hT hL P1 P5 64 _ (0 : Int32) md md X118 e118 (by omega) ⟨by omega, by omega, by omega, by omega⟩ ?_
                intro T120 md120 X120 e120
                refine own_iload X120 hx (hb hby od_prog_190_method_13_140) rfl (pc' := 142) rfl ?_
                refine own_iconst X120 hx (hb hby od_prog_190_method_13_142) (z := (1 : Int32)) rfl (pc' := 143) rfl ?_
                refine own_isub X120 hx (hb hby od_prog_190_method_13_143) (pc' := 144) rfl ?_
                refine own_istore X120 hx (hb hby od_prog_190_method_13_144) (l' := #[.val (.ref rt), .val (.int u0), .val (.ref rl), .val (.int UL), .val (.int ((tt + (1 : Int32)) - (1 : Int32))), .val (.int (tt + (1 : Int32))), .val (.int (tt + (1 : Int32))), .val (.int md120)]) rfl (pc' := 146) rfl ?_
                have eF := own_m1 tt
                refine own_cast (S' := T120.setTop (mkF m 146 #[.val (.ref rt), .val (.int u0), .val (.ref rl), .val (.int UL), .val (.int tt), .val (.int (tt + (1 : Int32))), .val (.int (tt + (1 : Int32))), .val (.int md120)] [])) (by rw [eF]) ?_
                refine own_aloadN X120 hx (hb hby od_prog_190_method_13_146) rfl rfl (pc' := 147) rfl ?_
                refine own_iload X120 hx (hb hby od_prog_190_method_13_147) rfl (pc' := 149) rfl ?_
                refine own_putF X120 hx hZ hown (ow_56 hw) e120 P4 P0 (Or.inl (ow_57 hw)) (ow_7 hw) (ty := .int) (by decide) rfl rfl (hb hby od_prog_190_method_13_149) (pc' := 152) rfl ?_
                intro T121 h121 X121 e121 W121
                have N121 := Fr.snoc X121 N0 g_rt
                refine own_iload X121 hx (hb hby od_prog_190_method_13_152) rfl (pc' := 154) rfl ?_
                refine own_aloadN X121 hx (hb hby od_prog_190_method_13_154) rfl rfl (pc' := 155) rfl ?_
                have f122 : Fld Z h121 rt "com/example/structlane/structlane/header/SourceText" "firstLine" "I" (.int (1 : Int32)) := (P3.other W121 (Or.inr (osn_32 hw)))
                refine own_getF X121 hx hZ hown (ow_18 hw) e121 f122 (hb hby od_prog_190_method_13_155) (pc' := 158) rfl ?_
                intro T123 X123 e123
                refine own_iadd X123 hx (hb hby od_prog_190_method_13_158) (pc' := 159) rfl ?_
                have k125 : Keep h0 h121 [rt] := (Keep.wr (Keep.refl _ _) W121 (Or.inl (List.mem_of_getElem? (i := 0) rfl)))
                have f126 : Fld Z h121 rt "com/example/structlane/structlane/header/SourceText" "lineStarts" "[I" (.ref rl) := (P1.other W121 (Or.inr (osn_33 hw)))
                have f127 : Fld Z h121 rt "com/example/structlane/structlane/header/SourceText" "lines" "I" (.int LL) := (P2.other W121 (Or.inr (osn_34 hw)))
                exact own_retI X123 hx hret hlk (hb hby od_prog_190_method_13_159) ⟨rfl, N121, (by rw [e123]; exact k125), (by rw [e123]; exact f126), (by rw [e123]; exact f127), (by rw [e123]; exact f122), (by rw [e123]; exact (P4.same W121))⟩ (by decide) (by decide)
              · refine own_icmpF X118 hx (hb hby od_prog_190_method_13_121) (flt c119).2.2.1 (pc' := 124) rfl ?_
                refine own_iload X118 hx (hb hby od_prog_190_method_13_124) rfl (pc' := 126) rfl ?_
                refine own_iconst X118 hx (hb hby od_prog_190_method_13_126) (z := (1 : Int32)) rfl (pc' := 127) rfl ?_
                refine own_iadd X118 hx (hb hby od_prog_190_method_13_127) (pc' := 128) rfl ?_
                refine own_istore X118 hx (hb hby od_prog_190_method_13_128) (l' := #[.val (.ref rt), .val (.int u0), .val (.ref rl), .val (.int UL), .unset, .val (.int (md + (1 : Int32))), .val (.int LL), .val (.int md)]) rfl (pc' := 130) rfl ?_
                refine own_goto X118 hx (hb hby od_prog_190_method_13_130) (by decide) (pc' := 137) rfl ?_
                refine own_goto X118 hx (hb hby od_prog_190_method_13_137) (by decide) (pc' := 97) rfl ?_
                have am := own_at HH md (by omega)
                have r4 := own_nlt c3
                have r5 := own_neI c82
                have r6 := own_nlt c90
                have r7 := own_lt c99
                have r8 := own_neI c101
                have r9 := own_nlt c109
                have r10 := own_nlt c119
                have bm := own_p1 md (by omega)
                refine own_bs hw hx hby hown hZ rt rl gl u0 LL UL tt HH hT hL P1 P5 64 _ (md + (1 : Int32)) LL md X118 e118 (by omega) ⟨by omega, by omega, by omega, by omega⟩ ?_
                intro T128 md128 X128 e128
                refine own_iload X128 hx (hb hby od_prog_190_method_13_140) rfl (pc' := 142) rfl ?_
                refine own_iconst X128 hx (hb hby od_prog_190_method_13_142) (z := (1 : Int32)) rfl (pc' := 143) rfl ?_
                refine own_isub X128 hx (hb hby od_prog_190_method_13_143) (pc' := 144) rfl ?_
                refine own_istore X128 hx (hb hby od_prog_190_method_13_144) (l' := #[.val (.ref rt), .val (.int u0), .val (.ref rl), .val (.int UL), .val (.int ((tt + (1 : Int32)) - (1 : Int32))), .val (.int (tt + (1 : Int32))), .val (.int (tt + (1 : Int32))), .val (.int md128)]) rfl (pc' := 146) rfl ?_
                have eF := own_m1 tt
                refine own_cast (S' := T128.setTop (mkF m 146 #[.val (.ref rt), .val (.int u0), .val (.ref rl), .val (.int UL), .val (.int tt), .val (.int (tt + (1 : Int32))), .val (.int (tt + (1 : Int32))), .val (.int md128)] [])) (by rw [eF]) ?_
                refine own_aloadN X128 hx (hb hby od_prog_190_method_13_146) rfl rfl (pc' := 147) rfl ?_
                refine own_iload X128 hx (hb hby od_prog_190_method_13_147) rfl (pc' := 149) rfl ?_
                refine own_putF X128 hx hZ hown (ow_56 hw) e128 P4 P0 (Or.inl (ow_57 hw)) (ow_7 hw) (ty := .int) (by decide) rfl rfl (hb hby od_prog_190_method_13_149) (pc' := 152) rfl ?_
                intro T129 h129 X129 e129 W129
                have N129 := Fr.snoc X129 N0 g_rt
                refine own_iload X129 hx (hb hby od_prog_190_method_13_152) rfl (pc' := 154) rfl ?_
                refine own_aloadN X129 hx (hb hby od_prog_190_method_13_154) rfl rfl (pc' := 155) rfl ?_
                have f130 : Fld Z h129 rt "com/example/structlane/structlane/header/SourceText" "firstLine" "I" (.int (1 : Int32)) := (P3.other W129 (Or.inr (osn_32 hw)))
                refine own_getF X129 hx hZ hown (ow_18 hw) e129 f130 (hb hby od_prog_190_method_13_155) (pc' := 158) rfl ?_
                intro T131 X131 e131
                refine own_iadd X131 hx (hb hby od_prog_190_method_13_158) (pc' := 159) rfl ?_
                have k133 : Keep h0 h129 [rt] := (Keep.wr (Keep.refl _ _) W129 (Or.inl (List.mem_of_getElem? (i := 0) rfl)))
                have f134 : Fld Z h129 rt "com/example/structlane/structlane/header/SourceText" "lineStarts" "[I" (.ref rl) := (P1.other W129 (Or.inr (osn_33 hw)))
                have f135 : Fld Z h129 rt "com/example/structlane/structlane/header/SourceText" "lines" "I" (.int LL) := (P2.other W129 (Or.inr (osn_34 hw)))
                exact own_retI X131 hx hret hlk (hb hby od_prog_190_method_13_159) ⟨rfl, N129, (by rw [e131]; exact k133), (by rw [e131]; exact f134), (by rw [e131]; exact f135), (by rw [e131]; exact f130), (by rw [e131]; exact (P4.same W129))⟩ (by decide) (by decide)
        · refine own_icmpT X98 hx (hb hby od_prog_190_method_13_49) (flt c99).2.1 (by decide) (pc' := 88) rfl ?_
          refine own_iconst X98 hx (hb hby od_prog_190_method_13_88) (z := (0 : Int32)) rfl (pc' := 89) rfl ?_
          refine own_istore X98 hx (hb hby od_prog_190_method_13_89) (l' := #[.val (.ref rt), .val (.int u0), .val (.ref rl), .val (.int UL), .unset, .val (.int (0 : Int32)), .unset, .unset]) rfl (pc' := 91) rfl ?_
          refine own_aloadN X98 hx (hb hby od_prog_190_method_13_91) rfl rfl (pc' := 92) rfl ?_
          refine own_getF X98 hx hZ hown (ow_49 hw) e98 P2 (hb hby od_prog_190_method_13_92) (pc' := 95) rfl ?_
          intro T136 X136 e136
          refine own_istore X136 hx (hb hby od_prog_190_method_13_95) (l' := #[.val (.ref rt), .val (.int u0), .val (.ref rl), .val (.int UL), .unset, .val (.int (0 : Int32)), .val (.int LL), .unset]) rfl (pc' := 97) rfl ?_
          refine own_iload X136 hx (hb hby od_prog_190_method_13_97) rfl (pc' := 99) rfl ?_
          refine own_iload X136 hx (hb hby od_prog_190_method_13_99) rfl (pc' := 101) rfl ?_
          refine own_icmpF X136 hx (hb hby od_prog_190_method_13_101) (tlt (by rw [Int32.lt_iff_toInt_lt]; have q : (0 : Int32).toInt = 0 := rfl; omega)).2.1 (pc' := 104) rfl ?_
          refine own_iload X136 hx (hb hby od_prog_190_method_13_104) rfl (pc' := 106) rfl ?_
          refine own_iload X136 hx (hb hby od_prog_190_method_13_106) rfl (pc' := 108) rfl ?_
          refine own_iadd X136 hx (hb hby od_prog_190_method_13_108) (pc' := 109) rfl ?_
          refine own_iconst X136 hx (hb hby od_prog_190_method_13_109) (z := (1 : Int32)) rfl (pc' := 110) rfl ?_
          refine own_iushr X136 hx (hb hby od_prog_190_method_13_110) (pc' := 111) rfl ?_
          obtain ⟨md, hmd, hmb⟩ : ∃ md, ((((0 : Int32) + LL).toUInt32 >>> ((1 : Int32) &&& 31).toUInt32).toInt32) = md ∧ (0 : Int32).toInt ≤ md.toInt ∧ md.toInt < LL.toInt := ⟨_, rfl, own_mid (0 : Int32) LL (by decide) (by have q : (0 : Int32).toInt = 0 := rfl; omega) (by omega)⟩
          have hz0 : (0 : Int32).toInt = 0 := rfl
          rw [hmd]
          refine own_istore X136 hx (hb hby od_prog_190_method_13_111) (l' := #[.val (.ref rt), .val (.int u0), .val (.ref rl), .val (.int UL), .unset, .val (.int (0 : Int32)), .val (.int LL), .val (.int md)]) rfl (pc' := 113) rfl ?_
          refine own_aloadN X136 hx (hb hby od_prog_190_method_13_113) rfl rfl (pc' := 114) rfl ?_
          refine own_getF X136 hx hZ hown (ow_46 hw) e136 P1 (hb hby od_prog_190_method_13_114) (pc' := 117) rfl ?_
          intro T137 X137 e137
          refine own_iload X137 hx (hb hby od_prog_190_method_13_117) rfl (pc' := 119) rfl ?_
          refine own_iaload X137 hx hZ e137 P5 (x := (gl md.toNatClampNeg)) (own_ib64 (by have r4 := own_nlt c3; have r5 := own_neI c82; have r6 := own_nlt c90; have r7 := own_nlt c99; omega)) rfl (hb hby od_prog_190_method_13_119) (pc' := 120) rfl ?_
          refine own_iloadN X137 hx (hb hby od_prog_190_method_13_120) rfl (pc' := 121) rfl ?_
          by_cases c138 : u0 < (gl md.toNatClampNeg)
          · refine own_icmpT X137 hx (hb hby od_prog_190_method_13_121) (tlt c138).2.2.1 (by decide) (pc' := 133) rfl ?_
            refine own_iload X137 hx (hb hby od_prog_190_method_13_133) rfl (pc' := 135) rfl ?_
            refine own_istore X137 hx (hb hby od_prog_190_method_13_135) (l' := #[.val (.ref rt), .val (.int u0), .val (.ref rl), .val (.int UL), .unset, .val (.int (0 : Int32)), .val (.int md), .val (.int md)]) rfl (pc' := 137) rfl ?_
            refine own_goto X137 hx (hb hby od_prog_190_method_13_137) (by decide) (pc' := 97) rfl ?_
            have am := own_at HH md (by omega)
            have r4 := own_nlt c3
            have r5 := own_neI c82
            have r6 := own_nlt c90
            have r7 := own_nlt c99
            have r8 := own_lt c138
            have bm := own_p1 md (by omega)
            refine own_bs hw hx hby hown hZ rt rl gl u0 LL UL tt HH hT hL P1 P5 64 _ (0 : Int32) md md X137 e137 (by omega) ⟨by omega, by omega, by omega, by omega⟩ ?_
            intro T139 md139 X139 e139
            refine own_iload X139 hx (hb hby od_prog_190_method_13_140) rfl (pc' := 142) rfl ?_
            refine own_iconst X139 hx (hb hby od_prog_190_method_13_142) (z := (1 : Int32)) rfl (pc' := 143) rfl ?_
            refine own_isub X139 hx (hb hby od_prog_190_method_13_143) (pc' := 144) rfl ?_
            refine own_istore X139 hx (hb hby od_prog_190_method_13_144) (l' := #[.val (.ref rt), .val (.int u0), .val (.ref rl), .val (.int UL), .val (.int ((tt + (1 : Int32)) - (1 : Int32))), .val (.int (tt + (1 : Int32))), .val (.int (tt + (1 : Int32))), .val (.int md139)]) rfl (pc' := 146) rfl ?_
            have eF := own_m1 tt
            refine own_cast (S' := T139.setTop (mkF m 146 #[.val (.ref rt), .val (.int u0), .val (.ref rl), .val (.int UL), .val (.int tt), .val (.int (tt + (1 : Int32))), .val (.int (tt + (1 : Int32))), .val (.int md139)] [])) (by rw [eF]) ?_
            refine own_aloadN X139 hx (hb hby od_prog_190_method_13_146) rfl rfl (pc' := 147) rfl ?_
            refine own_iload X139 hx (hb hby od_prog_190_method_13_147) rfl (pc' := 149) rfl ?_
            refine own_putF X139 hx hZ hown (ow_56 hw) e139 P4 P0 (Or.inl (ow_57 hw)) (ow_7 hw) (ty := .int) (by decide) rfl rfl (hb hby od_prog_190_method_13_149) (pc' := 152) rfl ?_
            intro T140 h140 X140 e140 W140
            have N140 := Fr.snoc X140 N0 g_rt
            refine own_iload X140 hx (hb hby od_prog_190_method_13_152) rfl (pc' := 154) rfl ?_
            refine own_aloadN X140 hx (hb hby od_prog_190_method_13_154) rfl rfl (pc' := 155) rfl ?_
            have f141 : Fld Z h140 rt "com/example/structlane/structlane/header/SourceText" "firstLine" "I" (.int (1 : Int32)) := (P3.other W140 (Or.inr (osn_32 hw)))
            refine own_getF X140 hx hZ hown (ow_18 hw) e140 f141 (hb hby od_prog_190_method_13_155) (pc' := 158) rfl ?_
            intro T142 X142 e142
            refine own_iadd X142 hx (hb hby od_prog_190_method_13_158) (pc' := 159) rfl ?_
            have k144 : Keep h0 h140 [rt] := (Keep.wr (Keep.refl _ _) W140 (Or.inl (List.mem_of_getElem? (i := 0) rfl)))
            have f145 : Fld Z h140 rt "com/example/structlane/structlane/header/SourceText" "lineStarts" "[I" (.ref rl) := (P1.other W140 (Or.inr (osn_33 hw)))
            have f146 : Fld Z h140 rt "com/example/structlane/structlane/header/SourceText" "lines" "I" (.int LL) := (P2.other W140 (Or.inr (osn_34 hw)))
            exact own_retI X142 hx hret hlk (hb hby od_prog_190_method_13_159) ⟨rfl, N140, (by rw [e142]; exact k144), (by rw [e142]; exact f145), (by rw [e142]; exact f146), (by rw [e142]; exact f141), (by rw [e142]; exact (P4.same W140))⟩ (by decide) (by decide)
          · refine own_icmpF X137 hx (hb hby od_prog_190_method_13_121) (flt c138).2.2.1 (pc' := 124) rfl ?_
            refine own_iload X137 hx (hb hby od_prog_190_method_13_124) rfl (pc' := 126) rfl ?_
            refine own_iconst X137 hx (hb hby od_prog_190_method_13_126) (z := (1 : Int32)) rfl (pc' := 127) rfl ?_
            refine own_iadd X137 hx (hb hby od_prog_190_method_13_127) (pc' := 128) rfl ?_
            refine own_istore X137 hx (hb hby od_prog_190_method_13_128) (l' := #[.val (.ref rt), .val (.int u0), .val (.ref rl), .val (.int UL), .unset, .val (.int (md + (1 : Int32))), .val (.int LL), .val (.int md)]) rfl (pc' := 130) rfl ?_
            refine own_goto X137 hx (hb hby od_prog_190_method_13_130) (by decide) (pc' := 137) rfl ?_
            refine own_goto X137 hx (hb hby od_prog_190_method_13_137) (by decide) (pc' := 97) rfl ?_
            have am := own_at HH md (by omega)
            have r4 := own_nlt c3
            have r5 := own_neI c82
            have r6 := own_nlt c90
            have r7 := own_nlt c99
            have r8 := own_nlt c138
            have bm := own_p1 md (by omega)
            refine own_bs hw hx hby hown hZ rt rl gl u0 LL UL tt HH hT hL P1 P5 64 _ (md + (1 : Int32)) LL md X137 e137 (by omega) ⟨by omega, by omega, by omega, by omega⟩ ?_
            intro T147 md147 X147 e147
            refine own_iload X147 hx (hb hby od_prog_190_method_13_140) rfl (pc' := 142) rfl ?_
            refine own_iconst X147 hx (hb hby od_prog_190_method_13_142) (z := (1 : Int32)) rfl (pc' := 143) rfl ?_
            refine own_isub X147 hx (hb hby od_prog_190_method_13_143) (pc' := 144) rfl ?_
            refine own_istore X147 hx (hb hby od_prog_190_method_13_144) (l' := #[.val (.ref rt), .val (.int u0), .val (.ref rl), .val (.int UL), .val (.int ((tt + (1 : Int32)) - (1 : Int32))), .val (.int (tt + (1 : Int32))), .val (.int (tt + (1 : Int32))), .val (.int md147)]) rfl (pc' := 146) rfl ?_
            have eF := own_m1 tt
            refine own_cast (S' := T147.setTop (mkF m 146 #[.val (.ref rt), .val (.int u0), .val (.ref rl), .val (.int UL), .val (.int tt), .val (.int (tt + (1 : Int32))), .val (.int (tt + (1 : Int32))), .val (.int md147)] [])) (by rw [eF]) ?_
            refine own_aloadN X147 hx (hb hby od_prog_190_method_13_146) rfl rfl (pc' := 147) rfl ?_
            refine own_iload X147 hx (hb hby od_prog_190_method_13_147) rfl (pc' := 149) rfl ?_
            refine own_putF X147 hx hZ hown (ow_56 hw) e147 P4 P0 (Or.inl (ow_57 hw)) (ow_7 hw) (ty := .int) (by decide) rfl rfl (hb hby od_prog_190_method_13_149) (pc' := 152) rfl ?_
            intro T148 h148 X148 e148 W148
            have N148 := Fr.snoc X148 N0 g_rt
            refine own_iload X148 hx (hb hby od_prog_190_method_13_152) rfl (pc' := 154) rfl ?_
            refine own_aloadN X148 hx (hb hby od_prog_190_method_13_154) rfl rfl (pc' := 155) rfl ?_
            have f149 : Fld Z h148 rt "com/example/structlane/structlane/header/SourceText" "firstLine" "I" (.int (1 : Int32)) := (P3.other W148 (Or.inr (osn_32 hw)))
            refine own_getF X148 hx hZ hown (ow_18 hw) e148 f149 (hb hby od_prog_190_method_13_155) (pc' := 158) rfl ?_
            intro T150 X150 e150
            refine own_iadd X150 hx (hb hby od_prog_190_method_13_158) (pc' := 159) rfl ?_
            have k152 : Keep h0 h148 [rt] := (Keep.wr (Keep.refl _ _) W148 (Or.inl (List.mem_of_getElem? (i := 0) rfl)))
            have f153 : Fld Z h148 rt "com/example/structlane/structlane/header/SourceText" "lineStarts" "[I" (.ref rl) := (P1.other W148 (Or.inr (osn_33 hw)))
            have f154 : Fld Z h148 rt "com/example/structlane/structlane/header/SourceText" "lines" "I" (.int LL) := (P2.other W148 (Or.inr (osn_34 hw)))
            exact own_retI X150 hx hret hlk (hb hby od_prog_190_method_13_159) ⟨rfl, N148, (by rw [e150]; exact k152), (by rw [e150]; exact f153), (by rw [e150]; exact f154), (by rw [e150]; exact f149), (by rw [e150]; exact (P4.same W148))⟩ (by decide) (by decide)
def own_tt (gb : Nat → Int32) (q : Int32) : Int32 := ((((own_nl gb (0 : Int32) q + own_nl gb (1 : Int32) q) + own_nl gb (2 : Int32) q) + own_nl gb (3 : Int32) q) + own_nl gb (4 : Int32) q) + own_nl gb (5 : Int32) q
theorem own_nlc (gb : Nat → Int32) (i q : Int32) (n : Nat) (hi : i.toInt = n) : ((n : Int) < q.toInt → (own_nl gb i q).toInt = (if gb n = (10 : Int32) then (1 : Int) else 0)) ∧ (q.toInt ≤ (n : Int) → (own_nl gb i q).toInt = 0) := by
  have e : i.toNatClampNeg = n := by show i.toInt.toNat = n; omega
  unfold own_nl
  rw [e]
  constructor
  · intro h
    rw [if_pos (show i < q by rw [Int32.lt_iff_toInt_lt]; omega)]
    by_cases c : gb n = (10 : Int32)
    · simp only [if_pos c]; rfl
    · simp only [if_neg c]; rfl
  · intro h
    rw [if_neg (show ¬ i < q by rw [Int32.lt_iff_toInt_lt]; omega)]
    rfl
theorem own_n01 (gb : Nat → Int32) (i q : Int32) : 0 ≤ (own_nl gb i q).toInt ∧ (own_nl gb i q).toInt ≤ 1 := by
  unfold own_nl
  split
  · split <;> decide
  · decide
theorem own_ad (a b : Int32) (ha : 0 ≤ a.toInt ∧ a.toInt ≤ 8) (hb' : 0 ≤ b.toInt ∧ b.toInt ≤ 1) : (a + b).toInt = a.toInt + b.toInt := by
  have h1 := c_iadd a b
  have h2 := rng32 (a + b)
  omega
theorem own_ts (gb : Nat → Int32) (q : Int32) : (own_tt gb q).toInt = (own_nl gb 0 q).toInt + (own_nl gb 1 q).toInt + (own_nl gb 2 q).toInt + (own_nl gb 3 q).toInt + (own_nl gb 4 q).toInt + (own_nl gb 5 q).toInt := by
  have b0 := own_n01 gb 0 q
  have b1 := own_n01 gb 1 q
  have b2 := own_n01 gb 2 q
  have b3 := own_n01 gb 3 q
  have b4 := own_n01 gb 4 q
  have b5 := own_n01 gb 5 q
  unfold own_tt
  generalize own_nl gb 0 q = x0 at *
  generalize own_nl gb 1 q = x1 at *
  generalize own_nl gb 2 q = x2 at *
  generalize own_nl gb 3 q = x3 at *
  generalize own_nl gb 4 q = x4 at *
  generalize own_nl gb 5 q = x5 at *
  have s1 := own_ad x0 x1 (by omega) b1
  have s2 := own_ad (x0 + x1) x2 (by omega) b2
  have s3 := own_ad (x0 + x1 + x2) x3 (by omega) b3
  have s4 := own_ad (x0 + x1 + x2 + x3) x4 (by omega) b4
  have s5 := own_ad (x0 + x1 + x2 + x3 + x4) x5 (by omega) b5
  omega
theorem own_cs (gb : Nat → Int32) (n : Nat) : ((own_cnt gb (n + 1) : Nat) : Int) = (own_cnt gb n : Int) + (if gb n = (10 : Int32) then 1 else 0) := by
  show ((own_cnt gb n + (if gb n = (10 : Int32) then 1 else 0) : Nat) : Int) = _
  split <;> simp
theorem own_ttc (gb : Nat → Int32) (q : Int32) (h : 0 ≤ q.toInt ∧ q.toInt ≤ 6) : (own_tt gb q).toInt = (own_cnt gb q.toInt.toNat : Int) := by
  have n0 := own_nlc gb 0 q 0 rfl
  have n1 := own_nlc gb 1 q 1 rfl
  have n2 := own_nlc gb 2 q 2 rfl
  have n3 := own_nlc gb 3 q 3 rfl
  have n4 := own_nlc gb 4 q 4 rfl
  have n5 := own_nlc gb 5 q 5 rfl
  rw [own_ts gb q]
  obtain ⟨k, hk⟩ : ∃ k : Nat, q.toInt = k := ⟨q.toInt.toNat, by omega⟩
  have ek : q.toInt.toNat = k := by omega
  rw [ek]
  have hk6 : k ≤ 6 := by omega
  have c0 : ((own_cnt gb 0 : Nat) : Int) = 0 := rfl
  have c1 : ((own_cnt gb 1 : Nat) : Int) = _ := own_cs gb 0
  have c2 : ((own_cnt gb 2 : Nat) : Int) = _ := own_cs gb 1
  have c3 : ((own_cnt gb 3 : Nat) : Int) = _ := own_cs gb 2
  have c4 : ((own_cnt gb 4 : Nat) : Int) = _ := own_cs gb 3
  have c5 : ((own_cnt gb 5 : Nat) : Int) = _ := own_cs gb 4
  have c6 : ((own_cnt gb 6 : Nat) : Int) = _ := own_cs gb 5
  generalize (if gb 0 = (10 : Int32) then (1 : Int) else 0) = d0 at *
  generalize (if gb 1 = (10 : Int32) then (1 : Int) else 0) = d1 at *
  generalize (if gb 2 = (10 : Int32) then (1 : Int) else 0) = d2 at *
  generalize (if gb 3 = (10 : Int32) then (1 : Int) else 0) = d3 at *
  generalize (if gb 4 = (10 : Int32) then (1 : Int) else 0) = d4 at *
  generalize (if gb 5 = (10 : Int32) then (1 : Int) else 0) = d5 at *
  rcases (by omega : k = 0 ∨ k = 1 ∨ k = 2 ∨ k = 3 ∨ k = 4 ∨ k = 5 ∨ k = 6) with rfl | rfl | rfl | rfl | rfl | rfl | rfl
  · rw [n0.2 (by omega), n1.2 (by omega), n2.2 (by omega), n3.2 (by omega), n4.2 (by omega), n5.2 (by omega)]
    omega
  · rw [n0.1 (by omega), n1.2 (by omega), n2.2 (by omega), n3.2 (by omega), n4.2 (by omega), n5.2 (by omega)]
    omega
  · rw [n0.1 (by omega), n1.1 (by omega), n2.2 (by omega), n3.2 (by omega), n4.2 (by omega), n5.2 (by omega)]
    omega
  · rw [n0.1 (by omega), n1.1 (by omega), n2.1 (by omega), n3.2 (by omega), n4.2 (by omega), n5.2 (by omega)]
    omega
  · rw [n0.1 (by omega), n1.1 (by omega), n2.1 (by omega), n3.1 (by omega), n4.2 (by omega), n5.2 (by omega)]
    omega
  · rw [n0.1 (by omega), n1.1 (by omega), n2.1 (by omega), n3.1 (by omega), n4.1 (by omega), n5.2 (by omega)]
    omega
  · rw [n0.1 (by omega), n1.1 (by omega), n2.1 (by omega), n3.1 (by omega), n4.1 (by omega), n5.1 (by omega)]
    omega
theorem own_HH {gb gl : Nat → Int32} {LL : Int32} (I : own_inv gb 6 gl LL) (q : Int32) (h : 0 ≤ q.toInt ∧ q.toInt ≤ 6) : ∀ k : Nat, (k : Int) < LL.toInt → ((gl k).toInt ≤ q.toInt ↔ (k : Int) ≤ (own_tt gb q).toInt) := by
  intro k hk
  have e := I.2 k hk q.toInt.toNat (by omega)
  rw [own_ttc gb q h]
  have eq : ((q.toInt.toNat : Nat) : Int) = q.toInt := by omega
  rw [eq] at e
  rw [e]
  omega
theorem own_hT {gb gl : Nat → Int32} {LL : Int32} (I : own_inv gb 6 gl LL) (q : Int32) (h : 0 ≤ q.toInt ∧ q.toInt ≤ 6) : 0 ≤ (own_tt gb q).toInt ∧ (own_tt gb q).toInt < LL.toInt := by
  rw [own_ttc gb q h, I.1]
  have := own_cmono gb q.toInt.toNat 6 (by omega)
  omega
theorem own_hL {gb gl : Nat → Int32} {LL : Int32} (I : own_inv gb 6 gl LL) : 1 ≤ LL.toInt ∧ LL.toInt ≤ 64 := by
  have := own_invL I (by omega); omega
theorem own_hU0 {gb gl : Nat → Int32} {LL : Int32} (I : own_inv gb 6 gl LL) : 0 ≤ (0 : Int32).toInt ∧ (0 : Int32).toInt < LL.toInt := by
  have := own_invL I (by omega)
  have e : (0 : Int32).toInt = 0 := rfl
  omega
theorem own_q (u : Int32) : 0 ≤ ((u &&& (2147483647 : Int32)) % (7 : Int32)).toInt ∧ ((u &&& (2147483647 : Int32)) % (7 : Int32)).toInt ≤ 6 := by
  have h := c_mask u 2147483647 31 (by decide) (by decide)
  have h1 := (c_irem (u &&& (2147483647 : Int32)) 7 7 rfl).1 (by omega)
  omega
theorem own_fin (gb : Nat → Int32) (u0 : Int32) : (own_tt gb u0 + (1 : Int32)) = (((((((1 : Int32) + (own_nl gb (0 : Int32) u0)) + (own_nl gb (1 : Int32) u0)) + (own_nl gb (2 : Int32) u0)) + (own_nl gb (3 : Int32) u0)) + (own_nl gb (4 : Int32) u0)) + (own_nl gb (5 : Int32) u0)) := by
  unfold own_tt
  generalize own_nl gb (0 : Int32) u0 = a
  generalize own_nl gb (1 : Int32) u0 = b
  generalize own_nl gb (2 : Int32) u0 = c
  generalize own_nl gb (3 : Int32) u0 = d
  generalize own_nl gb (4 : Int32) u0 = e
  generalize own_nl gb (5 : Int32) u0 = f
  rw [Int32.add_comm _ (1 : Int32)]
  simp only [Int32.add_assoc]
theorem own_six (a b c d e f : Int32) (ha : a = 10 ∨ a = 97) (hb' : b = 10 ∨ b = 97) (hc : c = 10 ∨ c = 97) (hd : d = 10 ∨ d = 97) (he : e = 10 ∨ e = 97) (hf : f = 10 ∨ f = 97) : ∀ j : Nat, j < 6 → own_LI [a, b, c, d, e, f] j = (10 : Int32) ∨ own_LI [a, b, c, d, e, f] j = (97 : Int32) := by
  intro j hj
  match j, hj with
  | 0, _ => exact ha
  | 1, _ => exact hb'
  | 2, _ => exact hc
  | 3, _ => exact hd
  | 4, _ => exact he
  | 5, _ => exact hf
theorem own_pk {c : Prop} [Decidable c] : (if c then (97 : Int32) else (10 : Int32)) = 10 ∨ (if c then (97 : Int32) else (10 : Int32)) = 97 := by
  by_cases h : c
  · exact Or.inr (if_pos h)
  · exact Or.inl (if_neg h)
theorem ow_0 {Z : State} {a0 : Array Value} (hw : ∀ d ∈ tables_1, d.before a0 Z = true) : (Jvm.Cond.arrayClass Jvm.ClassFile.FieldType.byte).before a0 Z = true := hw _ (List.mem_of_getElem? (i := 0) rfl)
theorem ow_1 {Z : State} {a0 : Array Value} (hw : ∀ d ∈ tables_1, d.before a0 Z = true) : (Jvm.Cond.methodLink "com/example/structlane/structlane/header/SourceTextLineOfPinLaw" (7 : Nat) ({ cls := "com/example/structlane/structlane/header/SourceTextLineOfPinLaw", name := "pick", desc := "(II)B" } : Jvm.MethodName)).before a0 Z = true := hw _ (List.mem_of_getElem? (i := 1) rfl)
theorem opd__II_B : parseMethodDescriptor "(II)B" = some ⟨[.int, .int], some .byte⟩ := by decide +kernel
theorem ow_2 {Z : State} {a0 : Array Value} (hw : ∀ d ∈ tables_1, d.before a0 Z = true) : (Jvm.Cond.static ({ cls := "com/example/structlane/structlane/header/SourceTextLineOfPinLaw", name := "pick", desc := "(II)B" } : Jvm.MethodName)).before a0 Z = true := hw _ (List.mem_of_getElem? (i := 2) rfl)
theorem ow_4 {Z : State} {a0 : Array Value} (hw : ∀ d ∈ tables_1, d.before a0 Z = true) : (Jvm.Cond.code ({ cls := "com/example/structlane/structlane/header/SourceTextLineOfPinLaw", name := "pick", desc := "(II)B" } : Jvm.MethodName) method_3_code (2 : Nat) (Option.some Jvm.ClassFile.FieldType.byte)).before a0 Z = true := hw _ (List.mem_of_getElem? (i := 4) rfl)
theorem ow_5 {Z : State} {a0 : Array Value} (hw : ∀ d ∈ tables_1, d.before a0 Z = true) : (Jvm.Cond.constant "com/example/structlane/structlane/header/SourceTextLineOfPinLaw" (13 : Nat) (2147483647 : Int32)).before a0 Z = true := hw _ (List.mem_of_getElem? (i := 5) rfl)
theorem ow_6 {Z : State} {a0 : Array Value} (hw : ∀ d ∈ tables_1, d.before a0 Z = true) : (Jvm.Cond.classLink "com/example/structlane/structlane/header/SourceTextLineOfPinLaw" (14 : Nat) "com/example/structlane/structlane/header/SourceText").before a0 Z = true := hw _ (List.mem_of_getElem? (i := 6) rfl)
theorem ow_9 {Z : State} {a0 : Array Value} (hw : ∀ d ∈ tables_1, d.before a0 Z = true) : (Jvm.Cond.methodLink "com/example/structlane/structlane/header/SourceTextLineOfPinLaw" (16 : Nat) ({ cls := "com/example/structlane/structlane/header/SourceText", name := "<init>", desc := "([B)V" } : Jvm.MethodName)).before a0 Z = true := hw _ (List.mem_of_getElem? (i := 9) rfl)
theorem ow_10 {Z : State} {a0 : Array Value} (hw : ∀ d ∈ tables_1, d.before a0 Z = true) : (Jvm.Cond.instanceMethod ({ cls := "com/example/structlane/structlane/header/SourceText", name := "<init>", desc := "([B)V" } : Jvm.MethodName)).before a0 Z = true := hw _ (List.mem_of_getElem? (i := 10) rfl)
theorem ow_11 {Z : State} {a0 : Array Value} (hw : ∀ d ∈ tables_1, d.before a0 Z = true) : (Jvm.Cond.code ({ cls := "com/example/structlane/structlane/header/SourceText", name := "<init>", desc := "([B)V" } : Jvm.MethodName) prog_190_method_1_code (2 : Nat) (Option.none : Option Jvm.ClassFile.FieldType)).before a0 Z = true := hw _ (List.mem_of_getElem? (i := 11) rfl)
theorem ow_51 {Z : State} {a0 : Array Value} (hw : ∀ d ∈ tables_1, d.before a0 Z = true) : (Jvm.Cond.methodLink "com/example/structlane/structlane/header/SourceTextLineOfPinLaw" (19 : Nat) ({ cls := "com/example/structlane/structlane/header/SourceText", name := "lineOf", desc := "(I)I" } : Jvm.MethodName)).before a0 Z = true := hw _ (List.mem_of_getElem? (i := 51) rfl)
theorem ow_54 {Z : State} {a0 : Array Value} (hw : ∀ d ∈ tables_1, d.before a0 Z = true) : (Jvm.Cond.selects "com/example/structlane/structlane/header/SourceText" ({ cls := "com/example/structlane/structlane/header/SourceText", name := "lineOf", desc := "(I)I" } : Jvm.MethodName) ({ cls := "com/example/structlane/structlane/header/SourceText", name := "lineOf", desc := "(I)I" } : Jvm.MethodName)).before a0 Z = true := hw _ (List.mem_of_getElem? (i := 54) rfl)
theorem opd__I_I : parseMethodDescriptor "(I)I" = some ⟨[.int], some .int⟩ := by decide +kernel
theorem ow_52 {Z : State} {a0 : Array Value} (hw : ∀ d ∈ tables_1, d.before a0 Z = true) : (Jvm.Cond.declares ({ cls := "com/example/structlane/structlane/header/SourceText", name := "lineOf", desc := "(I)I" } : Jvm.MethodName)).before a0 Z = true := hw _ (List.mem_of_getElem? (i := 52) rfl)
theorem ow_53 {Z : State} {a0 : Array Value} (hw : ∀ d ∈ tables_1, d.before a0 Z = true) : (Jvm.Cond.instanceMethod ({ cls := "com/example/structlane/structlane/header/SourceText", name := "lineOf", desc := "(I)I" } : Jvm.MethodName)).before a0 Z = true := hw _ (List.mem_of_getElem? (i := 53) rfl)
theorem ow_55 {Z : State} {a0 : Array Value} (hw : ∀ d ∈ tables_1, d.before a0 Z = true) : (Jvm.Cond.code ({ cls := "com/example/structlane/structlane/header/SourceText", name := "lineOf", desc := "(I)I" } : Jvm.MethodName) prog_190_method_13_code (8 : Nat) (Option.some Jvm.ClassFile.FieldType.int)).before a0 Z = true := hw _ (List.mem_of_getElem? (i := 55) rfl)
theorem ow_58 {Z : State} {a0 : Array Value} (hw : ∀ d ∈ tables_1, d.before a0 Z = true) : (Jvm.Cond.methodLink "com/example/structlane/structlane/header/SourceTextLineOfPinLaw" (23 : Nat) ({ cls := "com/example/structlane/structlane/header/SourceTextLineOfPinLaw", name := "ref", desc := "([BI)I" } : Jvm.MethodName)).before a0 Z = true := hw _ (List.mem_of_getElem? (i := 58) rfl)
theorem opd___BI_I : parseMethodDescriptor "([BI)I" = some ⟨[(.array .byte), .int], some .int⟩ := by decide +kernel
theorem ow_59 {Z : State} {a0 : Array Value} (hw : ∀ d ∈ tables_1, d.before a0 Z = true) : (Jvm.Cond.static ({ cls := "com/example/structlane/structlane/header/SourceTextLineOfPinLaw", name := "ref", desc := "([BI)I" } : Jvm.MethodName)).before a0 Z = true := hw _ (List.mem_of_getElem? (i := 59) rfl)
theorem ow_60 {Z : State} {a0 : Array Value} (hw : ∀ d ∈ tables_1, d.before a0 Z = true) : (Jvm.Cond.code ({ cls := "com/example/structlane/structlane/header/SourceTextLineOfPinLaw", name := "ref", desc := "([BI)I" } : Jvm.MethodName) method_5_code (2 : Nat) (Option.some Jvm.ClassFile.FieldType.int)).before a0 Z = true := hw _ (List.mem_of_getElem? (i := 60) rfl)
theorem oef_law (m : MethodId) (u0 : Int32) (u1 : Int32) (u2 : Int32) (u3 : Int32) (u4 : Int32) : entryFrame m #[(.int u0), (.int u1), (.int u2), (.int u3), (.int u4)] maxLocals = mkF m 0 #[.val (.int u0), .val (.int u1), .val (.int u2), .val (.int u3), .val (.int u4), .unset, .unset, .unset, .unset, .unset, .unset, .unset] [] := by first | (simp [entryFrame, mkF, argsToLocals, Value.category, maxLocals]; done) | rfl
set_option maxRecDepth 65536 in
set_option maxHeartbeats 40000000 in
theorem own_law (l : Launch) (Z : State) (a0 : Array Value) (hw : ∀ d ∈ tables_1, d.before a0 Z = true) (u0 : Int32) (u1 : Int32) (u2 : Int32) (u3 : Int32) (u4 : Int32) (h0 : Heap) (n0 : Nat) (Z0 : n0 ≤ h0.size) :
    own_M l Z x code maxLocals ret tables_1 room_1 #[(.int u0), (.int u1), (.int u2), (.int u3), (.int u4)] h0 (fun v h L => v = some (.int 1) ∧ Fr n0 L) 5 89 := by
  refine own_body (plainFor_of_name opn_com_example_structlane_structlane_header_SourceTextLineOfPinLaw) ?_
  intro p e s m below meth c s1 hx hby hml' hown hnm hret hlk hZ X0 e0
  have hml : c.maxLocals = 12 := hml'
  rw [oef_law m u0 u1 u2 u3 u4]
  have N0 := Fr.nil n0
  refine own_bipush X0 hx (hb hby at_0) (z := (6 : Int32)) (by decide) (pc' := 2) rfl ?_
  refine own_newAI X0 hx hZ (ty := .byte) rfl (ow_0 hw) e0 (hb hby at_2) (pc' := 4) rfl (by decide) (cap := 6) (by decide) (by decide) (by decide) (by decide) rfl ?_
  intro T1 h1 a1 g1 X1 e1 E1 A1
  have ge_a1 : n0 ≤ a1 := by rw [g1]; exact Z0
  have B1 : own_AI Z h1 a1 .byte (6 : Int32) (own_LI [(0 : Int32), (0 : Int32), (0 : Int32), (0 : Int32), (0 : Int32), (0 : Int32)]) := A1.same (by decide)
  refine own_astore X1 hx (hb hby at_4) rfl (l' := #[.val (.int u0), .val (.int u1), .val (.int u2), .val (.int u3), .val (.int u4), .val (.ref a1), .unset, .unset, .unset, .unset, .unset, .unset]) rfl (pc' := 6) rfl ?_
  refine own_aload X1 hx (hb hby at_6) rfl rfl (pc' := 8) rfl ?_
  refine own_iconst X1 hx (hb hby at_8) (z := (0 : Int32)) rfl (pc' := 9) rfl ?_
  refine own_iloadN X1 hx (hb hby at_9) rfl (pc' := 10) rfl ?_
  refine own_iconst X1 hx (hb hby at_10) (z := (0 : Int32)) rfl (pc' := 11) rfl ?_
  have z3 : n0 ≤ h1.size := (Nat.le_trans Z0 E1.1)
  refine own_callS X1 hx hZ hown (ow_1 hw) (ow_2 hw) (ow_3 hw) (ow_4 hw) (by decide) (rm_pick l Z a0 hw u0 (0 : Int32) h1 n0 z3) e1 (W := 2) (by decide) (by decide) opd__II_B rfl (rest := [(.int (0 : Int32)), (.ref a1)]) rfl (hb hby at_11) (Nat.le_of_eq rfl) (by rw [hml]; rfl) (by decide) (by decide) (pc' := 14) rfl ?_
  intro v2 T2 L2 X2 q2
  obtain ⟨rfl, Nq2, eh2⟩ := q2
  have N2 := Fr.app N0 Nq2
  show own_G p e below _ (T2.setTop (mkF m 14 #[.val (.int u0), .val (.int u1), .val (.int u2), .val (.int u3), .val (.int u4), .val (.ref a1), .unset, .unset, .unset, .unset, .unset, .unset] [(.int (if (((u0.toUInt32 >>> ((0 : Int32) &&& 31).toUInt32).toInt32) &&& (1 : Int32)) = (0 : Int32) then (97 : Int32) else (10 : Int32))), (.int (0 : Int32)), (.ref a1)]))
  refine own_bastore X2 hx hZ eh2 (g' := (own_LI [(if (((u0.toUInt32 >>> ((0 : Int32) &&& 31).toUInt32).toInt32) &&& (1 : Int32)) = (0 : Int32) then (97 : Int32) else (10 : Int32)), (0 : Int32), (0 : Int32), (0 : Int32), (0 : Int32), (0 : Int32)])) B1 (x' := (if (((u0.toUInt32 >>> ((0 : Int32) &&& 31).toUInt32).toInt32) &&& (1 : Int32)) = (0 : Int32) then (97 : Int32) else (10 : Int32))) (by decide) (by split <;> rfl) (fun i _ => own_LI_set [(0 : Int32), (0 : Int32), (0 : Int32), (0 : Int32), (0 : Int32), (0 : Int32)] 0 (if (((u0.toUInt32 >>> ((0 : Int32) &&& 31).toUInt32).toInt32) &&& (1 : Int32)) = (0 : Int32) then (97 : Int32) else (10 : Int32)) (by simp) i) (hb hby at_14) (pc' := 15) rfl ?_
  intro T4 h4 X4 e4 W4 A4
  have N4 := Fr.snoc X4 N2 ge_a1
  refine own_aload X4 hx (hb hby at_15) rfl rfl (pc' := 17) rfl ?_
  refine own_iconst X4 hx (hb hby at_17) (z := (1 : Int32)) rfl (pc' := 18) rfl ?_
  refine own_iloadN X4 hx (hb hby at_18) rfl (pc' := 19) rfl ?_
  refine own_iconst X4 hx (hb hby at_19) (z := (1 : Int32)) rfl (pc' := 20) rfl ?_
  have z6 : n0 ≤ h4.size := (Nat.le_trans z3 (Nat.le_of_eq (Wr.size W4).symm))
  refine own_callS X4 hx hZ hown (ow_1 hw) (ow_2 hw) (ow_3 hw) (ow_4 hw) (by decide) (rm_pick l Z a0 hw u0 (1 : Int32) h4 n0 z6) e4 (W := 2) (by decide) (by decide) opd__II_B rfl (rest := [(.int (1 : Int32)), (.ref a1)]) rfl (hb hby at_20) (Nat.le_of_eq rfl) (by rw [hml]; rfl) (by decide) (by decide) (pc' := 23) rfl ?_
  intro v5 T5 L5 X5 q5
  obtain ⟨rfl, Nq5, eh5⟩ := q5
  have N5 := Fr.app N4 Nq5
  show own_G p e below _ (T5.setTop (mkF m 23 #[.val (.int u0), .val (.int u1), .val (.int u2), .val (.int u3), .val (.int u4), .val (.ref a1), .unset, .unset, .unset, .unset, .unset, .unset] [(.int (if (((u0.toUInt32 >>> ((1 : Int32) &&& 31).toUInt32).toInt32) &&& (1 : Int32)) = (0 : Int32) then (97 : Int32) else (10 : Int32))), (.int (1 : Int32)), (.ref a1)]))
  refine own_bastore X5 hx hZ eh5 (g' := (own_LI [(if (((u0.toUInt32 >>> ((0 : Int32) &&& 31).toUInt32).toInt32) &&& (1 : Int32)) = (0 : Int32) then (97 : Int32) else (10 : Int32)), (if (((u0.toUInt32 >>> ((1 : Int32) &&& 31).toUInt32).toInt32) &&& (1 : Int32)) = (0 : Int32) then (97 : Int32) else (10 : Int32)), (0 : Int32), (0 : Int32), (0 : Int32), (0 : Int32)])) A4 (x' := (if (((u0.toUInt32 >>> ((1 : Int32) &&& 31).toUInt32).toInt32) &&& (1 : Int32)) = (0 : Int32) then (97 : Int32) else (10 : Int32))) (by decide) (by split <;> rfl) (fun i _ => own_LI_set [(if (((u0.toUInt32 >>> ((0 : Int32) &&& 31).toUInt32).toInt32) &&& (1 : Int32)) = (0 : Int32) then (97 : Int32) else (10 : Int32)), (0 : Int32), (0 : Int32), (0 : Int32), (0 : Int32), (0 : Int32)] 1 (if (((u0.toUInt32 >>> ((1 : Int32) &&& 31).toUInt32).toInt32) &&& (1 : Int32)) = (0 : Int32) then (97 : Int32) else (10 : Int32)) (by simp) i) (hb hby at_23) (pc' := 24) rfl ?_
  intro T7 h7 X7 e7 W7 A7
  have N7 := Fr.snoc X7 N5 ge_a1
  refine own_aload X7 hx (hb hby at_24) rfl rfl (pc' := 26) rfl ?_
  refine own_iconst X7 hx (hb hby at_26) (z := (2 : Int32)) rfl (pc' := 27) rfl ?_
  refine own_iloadN X7 hx (hb hby at_27) rfl (pc' := 28) rfl ?_
  refine own_iconst X7 hx (hb hby at_28) (z := (2 : Int32)) rfl (pc' := 29) rfl ?_
  have z9 : n0 ≤ h7.size := (Nat.le_trans z6 (Nat.le_of_eq (Wr.size W7).symm))
  refine own_callS X7 hx hZ hown (ow_1 hw) (ow_2 hw) (ow_3 hw) (ow_4 hw) (by decide) (rm_pick l Z a0 hw u0 (2 : Int32) h7 n0 z9) e7 (W := 2) (by decide) (by decide) opd__II_B rfl (rest := [(.int (2 : Int32)), (.ref a1)]) rfl (hb hby at_29) (Nat.le_of_eq rfl) (by rw [hml]; rfl) (by decide) (by decide) (pc' := 32) rfl ?_
  intro v8 T8 L8 X8 q8
  obtain ⟨rfl, Nq8, eh8⟩ := q8
  have N8 := Fr.app N7 Nq8
  show own_G p e below _ (T8.setTop (mkF m 32 #[.val (.int u0), .val (.int u1), .val (.int u2), .val (.int u3), .val (.int u4), .val (.ref a1), .unset, .unset, .unset, .unset, .unset, .unset] [(.int (if (((u0.toUInt32 >>> ((2 : Int32) &&& 31).toUInt32).toInt32) &&& (1 : Int32)) = (0 : Int32) then (97 : Int32) else (10 : Int32))), (.int (2 : Int32)), (.ref a1)]))
  refine own_bastore X8 hx hZ eh8 (g' := (own_LI [(if (((u0.toUInt32 >>> ((0 : Int32) &&& 31).toUInt32).toInt32) &&& (1 : Int32)) = (0 : Int32) then (97 : Int32) else (10 : Int32)), (if (((u0.toUInt32 >>> ((1 : Int32) &&& 31).toUInt32).toInt32) &&& (1 : Int32)) = (0 : Int32) then (97 : Int32) else (10 : Int32)), (if (((u0.toUInt32 >>> ((2 : Int32) &&& 31).toUInt32).toInt32) &&& (1 : Int32)) = (0 : Int32) then (97 : Int32) else (10 : Int32)), (0 : Int32), (0 : Int32), (0 : Int32)])) A7 (x' := (if (((u0.toUInt32 >>> ((2 : Int32) &&& 31).toUInt32).toInt32) &&& (1 : Int32)) = (0 : Int32) then (97 : Int32) else (10 : Int32))) (by decide) (by split <;> rfl) (fun i _ => own_LI_set [(if (((u0.toUInt32 >>> ((0 : Int32) &&& 31).toUInt32).toInt32) &&& (1 : Int32)) = (0 : Int32) then (97 : Int32) else (10 : Int32)), (if (((u0.toUInt32 >>> ((1 : Int32) &&& 31).toUInt32).toInt32) &&& (1 : Int32)) = (0 : Int32) then (97 : Int32) else (10 : Int32)), (0 : Int32), (0 : Int32), (0 : Int32), (0 : Int32)] 2 (if (((u0.toUInt32 >>> ((2 : Int32) &&& 31).toUInt32).toInt32) &&& (1 : Int32)) = (0 : Int32) then (97 : Int32) else (10 : Int32)) (by simp) i) (hb hby at_32) (pc' := 33) rfl ?_
  intro T10 h10 X10 e10 W10 A10
  have N10 := Fr.snoc X10 N8 ge_a1
  refine own_aload X10 hx (hb hby at_33) rfl rfl (pc' := 35) rfl ?_
  refine own_iconst X10 hx (hb hby at_35) (z := (3 : Int32)) rfl (pc' := 36) rfl ?_
  refine own_iloadN X10 hx (hb hby at_36) rfl (pc' := 37) rfl ?_
  refine own_iconst X10 hx (hb hby at_37) (z := (3 : Int32)) rfl (pc' := 38) rfl ?_
  have z12 : n0 ≤ h10.size := (Nat.le_trans z9 (Nat.le_of_eq (Wr.size W10).symm))
  refine own_callS X10 hx hZ hown (ow_1 hw) (ow_2 hw) (ow_3 hw) (ow_4 hw) (by decide) (rm_pick l Z a0 hw u0 (3 : Int32) h10 n0 z12) e10 (W := 2) (by decide) (by decide) opd__II_B rfl (rest := [(.int (3 : Int32)), (.ref a1)]) rfl (hb hby at_38) (Nat.le_of_eq rfl) (by rw [hml]; rfl) (by decide) (by decide) (pc' := 41) rfl ?_
  intro v11 T11 L11 X11 q11
  obtain ⟨rfl, Nq11, eh11⟩ := q11
  have N11 := Fr.app N10 Nq11
  show own_G p e below _ (T11.setTop (mkF m 41 #[.val (.int u0), .val (.int u1), .val (.int u2), .val (.int u3), .val (.int u4), .val (.ref a1), .unset, .unset, .unset, .unset, .unset, .unset] [(.int (if (((u0.toUInt32 >>> ((3 : Int32) &&& 31).toUInt32).toInt32) &&& (1 : Int32)) = (0 : Int32) then (97 : Int32) else (10 : Int32))), (.int (3 : Int32)), (.ref a1)]))
  refine own_bastore X11 hx hZ eh11 (g' := (own_LI [(if (((u0.toUInt32 >>> ((0 : Int32) &&& 31).toUInt32).toInt32) &&& (1 : Int32)) = (0 : Int32) then (97 : Int32) else (10 : Int32)), (if (((u0.toUInt32 >>> ((1 : Int32) &&& 31).toUInt32).toInt32) &&& (1 : Int32)) = (0 : Int32) then (97 : Int32) else (10 : Int32)), (if (((u0.toUInt32 >>> ((2 : Int32) &&& 31).toUInt32).toInt32) &&& (1 : Int32)) = (0 : Int32) then (97 : Int32) else (10 : Int32)), (if (((u0.toUInt32 >>> ((3 : Int32) &&& 31).toUInt32).toInt32) &&& (1 : Int32)) = (0 : Int32) then (97 : Int32) else (10 : Int32)), (0 : Int32), (0 : Int32)])) A10 (x' := (if (((u0.toUInt32 >>> ((3 : Int32) &&& 31).toUInt32).toInt32) &&& (1 : Int32)) = (0 : Int32) then (97 : Int32) else (10 : Int32))) (by decide) (by split <;> rfl) (fun i _ => own_LI_set [(if (((u0.toUInt32 >>> ((0 : Int32) &&& 31).toUInt32).toInt32) &&& (1 : Int32)) = (0 : Int32) then (97 : Int32) else (10 : Int32)), (if (((u0.toUInt32 >>> ((1 : Int32) &&& 31).toUInt32).toInt32) &&& (1 : Int32)) = (0 : Int32) then (97 : Int32) else (10 : Int32)), (if (((u0.toUInt32 >>> ((2 : Int32) &&& 31).toUInt32).toInt32) &&& (1 : Int32)) = (0 : Int32) then (97 : Int32) else (10 : Int32)), (0 : Int32), (0 : Int32), (0 : Int32)] 3 (if (((u0.toUInt32 >>> ((3 : Int32) &&& 31).toUInt32).toInt32) &&& (1 : Int32)) = (0 : Int32) then (97 : Int32) else (10 : Int32)) (by simp) i) (hb hby at_41) (pc' := 42) rfl ?_
  intro T13 h13 X13 e13 W13 A13
  have N13 := Fr.snoc X13 N11 ge_a1
  refine own_aload X13 hx (hb hby at_42) rfl rfl (pc' := 44) rfl ?_
  refine own_iconst X13 hx (hb hby at_44) (z := (4 : Int32)) rfl (pc' := 45) rfl ?_
  refine own_iloadN X13 hx (hb hby at_45) rfl (pc' := 46) rfl ?_
  refine own_iconst X13 hx (hb hby at_46) (z := (4 : Int32)) rfl (pc' := 47) rfl ?_
  have z15 : n0 ≤ h13.size := (Nat.le_trans z12 (Nat.le_of_eq (Wr.size W13).symm))
  refine own_callS X13 hx hZ hown (ow_1 hw) (ow_2 hw) (ow_3 hw) (ow_4 hw) (by decide) (rm_pick l Z a0 hw u0 (4 : Int32) h13 n0 z15) e13 (W := 2) (by decide) (by decide) opd__II_B rfl (rest := [(.int (4 : Int32)), (.ref a1)]) rfl (hb hby at_47) (Nat.le_of_eq rfl) (by rw [hml]; rfl) (by decide) (by decide) (pc' := 50) rfl ?_
  intro v14 T14 L14 X14 q14
  obtain ⟨rfl, Nq14, eh14⟩ := q14
  have N14 := Fr.app N13 Nq14
  show own_G p e below _ (T14.setTop (mkF m 50 #[.val (.int u0), .val (.int u1), .val (.int u2), .val (.int u3), .val (.int u4), .val (.ref a1), .unset, .unset, .unset, .unset, .unset, .unset] [(.int (if (((u0.toUInt32 >>> ((4 : Int32) &&& 31).toUInt32).toInt32) &&& (1 : Int32)) = (0 : Int32) then (97 : Int32) else (10 : Int32))), (.int (4 : Int32)), (.ref a1)]))
  refine own_bastore X14 hx hZ eh14 (g' := (own_LI [(if (((u0.toUInt32 >>> ((0 : Int32) &&& 31).toUInt32).toInt32) &&& (1 : Int32)) = (0 : Int32) then (97 : Int32) else (10 : Int32)), (if (((u0.toUInt32 >>> ((1 : Int32) &&& 31).toUInt32).toInt32) &&& (1 : Int32)) = (0 : Int32) then (97 : Int32) else (10 : Int32)), (if (((u0.toUInt32 >>> ((2 : Int32) &&& 31).toUInt32).toInt32) &&& (1 : Int32)) = (0 : Int32) then (97 : Int32) else (10 : Int32)), (if (((u0.toUInt32 >>> ((3 : Int32) &&& 31).toUInt32).toInt32) &&& (1 : Int32)) = (0 : Int32) then (97 : Int32) else (10 : Int32)), (if (((u0.toUInt32 >>> ((4 : Int32) &&& 31).toUInt32).toInt32) &&& (1 : Int32)) = (0 : Int32) then (97 : Int32) else (10 : Int32)), (0 : Int32)])) A13 (x' := (if (((u0.toUInt32 >>> ((4 : Int32) &&& 31).toUInt32).toInt32) &&& (1 : Int32)) = (0 : Int32) then (97 : Int32) else (10 : Int32))) (by decide) (by split <;> rfl) (fun i _ => own_LI_set [(if (((u0.toUInt32 >>> ((0 : Int32) &&& 31).toUInt32).toInt32) &&& (1 : Int32)) = (0 : Int32) then (97 : Int32) else (10 : Int32)), (if (((u0.toUInt32 >>> ((1 : Int32) &&& 31).toUInt32).toInt32) &&& (1 : Int32)) = (0 : Int32) then (97 : Int32) else (10 : Int32)), (if (((u0.toUInt32 >>> ((2 : Int32) &&& 31).toUInt32).toInt32) &&& (1 : Int32)) = (0 : Int32) then (97 : Int32) else (10 : Int32)), (if (((u0.toUInt32 >>> ((3 : Int32) &&& 31).toUInt32).toInt32) &&& (1 : Int32)) = (0 : Int32) then (97 : Int32) else (10 : Int32)), (0 : Int32), (0 : Int32)] 4 (if (((u0.toUInt32 >>> ((4 : Int32) &&& 31).toUInt32).toInt32) &&& (1 : Int32)) = (0 : Int32) then (97 : Int32) else (10 : Int32)) (by simp) i) (hb hby at_50) (pc' := 51) rfl ?_
  intro T16 h16 X16 e16 W16 A16
  have N16 := Fr.snoc X16 N14 ge_a1
  refine own_aload X16 hx (hb hby at_51) rfl rfl (pc' := 53) rfl ?_
  refine own_iconst X16 hx (hb hby at_53) (z := (5 : Int32)) rfl (pc' := 54) rfl ?_
  refine own_iloadN X16 hx (hb hby at_54) rfl (pc' := 55) rfl ?_
  refine own_iconst X16 hx (hb hby at_55) (z := (5 : Int32)) rfl (pc' := 56) rfl ?_
  have z18 : n0 ≤ h16.size := (Nat.le_trans z15 (Nat.le_of_eq (Wr.size W16).symm))
  refine own_callS X16 hx hZ hown (ow_1 hw) (ow_2 hw) (ow_3 hw) (ow_4 hw) (by decide) (rm_pick l Z a0 hw u0 (5 : Int32) h16 n0 z18) e16 (W := 2) (by decide) (by decide) opd__II_B rfl (rest := [(.int (5 : Int32)), (.ref a1)]) rfl (hb hby at_56) (Nat.le_of_eq rfl) (by rw [hml]; rfl) (by decide) (by decide) (pc' := 59) rfl ?_
  intro v17 T17 L17 X17 q17
  obtain ⟨rfl, Nq17, eh17⟩ := q17
  have N17 := Fr.app N16 Nq17
  show own_G p e below _ (T17.setTop (mkF m 59 #[.val (.int u0), .val (.int u1), .val (.int u2), .val (.int u3), .val (.int u4), .val (.ref a1), .unset, .unset, .unset, .unset, .unset, .unset] [(.int (if (((u0.toUInt32 >>> ((5 : Int32) &&& 31).toUInt32).toInt32) &&& (1 : Int32)) = (0 : Int32) then (97 : Int32) else (10 : Int32))), (.int (5 : Int32)), (.ref a1)]))
  refine own_bastore X17 hx hZ eh17 (g' := (own_LI [(if (((u0.toUInt32 >>> ((0 : Int32) &&& 31).toUInt32).toInt32) &&& (1 : Int32)) = (0 : Int32) then (97 : Int32) else (10 : Int32)), (if (((u0.toUInt32 >>> ((1 : Int32) &&& 31).toUInt32).toInt32) &&& (1 : Int32)) = (0 : Int32) then (97 : Int32) else (10 : Int32)), (if (((u0.toUInt32 >>> ((2 : Int32) &&& 31).toUInt32).toInt32) &&& (1 : Int32)) = (0 : Int32) then (97 : Int32) else (10 : Int32)), (if (((u0.toUInt32 >>> ((3 : Int32) &&& 31).toUInt32).toInt32) &&& (1 : Int32)) = (0 : Int32) then (97 : Int32) else (10 : Int32)), (if (((u0.toUInt32 >>> ((4 : Int32) &&& 31).toUInt32).toInt32) &&& (1 : Int32)) = (0 : Int32) then (97 : Int32) else (10 : Int32)), (if (((u0.toUInt32 >>> ((5 : Int32) &&& 31).toUInt32).toInt32) &&& (1 : Int32)) = (0 : Int32) then (97 : Int32) else (10 : Int32))])) A16 (x' := (if (((u0.toUInt32 >>> ((5 : Int32) &&& 31).toUInt32).toInt32) &&& (1 : Int32)) = (0 : Int32) then (97 : Int32) else (10 : Int32))) (by decide) (by split <;> rfl) (fun i _ => own_LI_set [(if (((u0.toUInt32 >>> ((0 : Int32) &&& 31).toUInt32).toInt32) &&& (1 : Int32)) = (0 : Int32) then (97 : Int32) else (10 : Int32)), (if (((u0.toUInt32 >>> ((1 : Int32) &&& 31).toUInt32).toInt32) &&& (1 : Int32)) = (0 : Int32) then (97 : Int32) else (10 : Int32)), (if (((u0.toUInt32 >>> ((2 : Int32) &&& 31).toUInt32).toInt32) &&& (1 : Int32)) = (0 : Int32) then (97 : Int32) else (10 : Int32)), (if (((u0.toUInt32 >>> ((3 : Int32) &&& 31).toUInt32).toInt32) &&& (1 : Int32)) = (0 : Int32) then (97 : Int32) else (10 : Int32)), (if (((u0.toUInt32 >>> ((4 : Int32) &&& 31).toUInt32).toInt32) &&& (1 : Int32)) = (0 : Int32) then (97 : Int32) else (10 : Int32)), (0 : Int32)] 5 (if (((u0.toUInt32 >>> ((5 : Int32) &&& 31).toUInt32).toInt32) &&& (1 : Int32)) = (0 : Int32) then (97 : Int32) else (10 : Int32)) (by simp) i) (hb hby at_59) (pc' := 60) rfl ?_
  intro T19 h19 X19 e19 W19 A19
  have N19 := Fr.snoc X19 N17 ge_a1
  obtain ⟨gb, hG⟩ : ∃ gb, gb = (own_LI [(if (((u0.toUInt32 >>> ((0 : Int32) &&& 31).toUInt32).toInt32) &&& (1 : Int32)) = (0 : Int32) then (97 : Int32) else (10 : Int32)), (if (((u0.toUInt32 >>> ((1 : Int32) &&& 31).toUInt32).toInt32) &&& (1 : Int32)) = (0 : Int32) then (97 : Int32) else (10 : Int32)), (if (((u0.toUInt32 >>> ((2 : Int32) &&& 31).toUInt32).toInt32) &&& (1 : Int32)) = (0 : Int32) then (97 : Int32) else (10 : Int32)), (if (((u0.toUInt32 >>> ((3 : Int32) &&& 31).toUInt32).toInt32) &&& (1 : Int32)) = (0 : Int32) then (97 : Int32) else (10 : Int32)), (if (((u0.toUInt32 >>> ((4 : Int32) &&& 31).toUInt32).toInt32) &&& (1 : Int32)) = (0 : Int32) then (97 : Int32) else (10 : Int32)), (if (((u0.toUInt32 >>> ((5 : Int32) &&& 31).toUInt32).toInt32) &&& (1 : Int32)) = (0 : Int32) then (97 : Int32) else (10 : Int32))]) := ⟨_, rfl⟩
  have hB6 : ∀ j : Nat, j < 6 → gb j = (10 : Int32) ∨ gb j = (97 : Int32) := by rw [hG]; exact own_six _ _ _ _ _ _ own_pk own_pk own_pk own_pk own_pk own_pk
  have fG : own_AI Z h19 a1 .byte (6 : Int32) gb := by rw [hG]; exact A19
  refine own_iloadN X19 hx (hb hby at_60) rfl (pc' := 61) rfl ?_
  refine own_ldc X19 hx hZ hown (ow_5 hw) (hb hby at_61) (pc' := 63) rfl ?_
  refine own_iand X19 hx (hb hby at_63) (pc' := 64) rfl ?_
  refine own_bipush X19 hx (hb hby at_64) (z := (7 : Int32)) (by decide) (pc' := 66) rfl ?_
  refine own_irem X19 hx (hb hby at_66) (by decide) (pc' := 67) rfl ?_
  refine own_istore X19 hx (hb hby at_67) (l' := #[.val (.int u0), .val (.int u1), .val (.int u2), .val (.int u3), .val (.int u4), .val (.ref a1), .val (.int ((u1 &&& (2147483647 : Int32)) % (7 : Int32))), .unset, .unset, .unset, .unset, .unset]) rfl (pc' := 69) rfl ?_
  refine own_iloadN X19 hx (hb hby at_69) rfl (pc' := 70) rfl ?_
  refine own_ldc X19 hx hZ hown (ow_5 hw) (hb hby at_70) (pc' := 72) rfl ?_
  refine own_iand X19 hx (hb hby at_72) (pc' := 73) rfl ?_
  refine own_bipush X19 hx (hb hby at_73) (z := (7 : Int32)) (by decide) (pc' := 75) rfl ?_
  refine own_irem X19 hx (hb hby at_75) (by decide) (pc' := 76) rfl ?_
  refine own_istore X19 hx (hb hby at_76) (l' := #[.val (.int u0), .val (.int u1), .val (.int u2), .val (.int u3), .val (.int u4), .val (.ref a1), .val (.int ((u1 &&& (2147483647 : Int32)) % (7 : Int32))), .val (.int ((u2 &&& (2147483647 : Int32)) % (7 : Int32))), .unset, .unset, .unset, .unset]) rfl (pc' := 78) rfl ?_
  refine own_iloadN X19 hx (hb hby at_78) rfl (pc' := 79) rfl ?_
  refine own_ldc X19 hx hZ hown (ow_5 hw) (hb hby at_79) (pc' := 81) rfl ?_
  refine own_iand X19 hx (hb hby at_81) (pc' := 82) rfl ?_
  refine own_bipush X19 hx (hb hby at_82) (z := (7 : Int32)) (by decide) (pc' := 84) rfl ?_
  refine own_irem X19 hx (hb hby at_84) (by decide) (pc' := 85) rfl ?_
  refine own_istore X19 hx (hb hby at_85) (l' := #[.val (.int u0), .val (.int u1), .val (.int u2), .val (.int u3), .val (.int u4), .val (.ref a1), .val (.int ((u1 &&& (2147483647 : Int32)) % (7 : Int32))), .val (.int ((u2 &&& (2147483647 : Int32)) % (7 : Int32))), .val (.int ((u3 &&& (2147483647 : Int32)) % (7 : Int32))), .unset, .unset, .unset]) rfl (pc' := 87) rfl ?_
  refine own_iload X19 hx (hb hby at_87) rfl (pc' := 89) rfl ?_
  refine own_ldc X19 hx hZ hown (ow_5 hw) (hb hby at_89) (pc' := 91) rfl ?_
  refine own_iand X19 hx (hb hby at_91) (pc' := 92) rfl ?_
  refine own_bipush X19 hx (hb hby at_92) (z := (7 : Int32)) (by decide) (pc' := 94) rfl ?_
  refine own_irem X19 hx (hb hby at_94) (by decide) (pc' := 95) rfl ?_
  refine own_istore X19 hx (hb hby at_95) (l' := #[.val (.int u0), .val (.int u1), .val (.int u2), .val (.int u3), .val (.int u4), .val (.ref a1), .val (.int ((u1 &&& (2147483647 : Int32)) % (7 : Int32))), .val (.int ((u2 &&& (2147483647 : Int32)) % (7 : Int32))), .val (.int ((u3 &&& (2147483647 : Int32)) % (7 : Int32))), .val (.int ((u4 &&& (2147483647 : Int32)) % (7 : Int32))), .unset, .unset]) rfl (pc' := 97) rfl ?_
  have z21 : n0 ≤ h19.size := (Nat.le_trans z18 (Nat.le_of_eq (Wr.size W19).symm))
  refine own_new X19 hx hZ hown (ow_6 hw) (ow_7 hw) (ow_8 hw) e19 (hb hby at_97) (pc' := 100) rfl (by decide) (by decide) ?_
  intro T20 h20 a20 g20 X20 e20 E20 A20 D20
  have lt_a1_a20 : a1 < a20 := by rw [g20]; exact fG.lt
  have ge_a20 : n0 ≤ a20 := by rw [g20]; exact z21
  have F20_firstLine : Fld Z h20 a20 "com/example/structlane/structlane/header/SourceText" "firstLine" "I" (.int (0 : Int32)) := D20 (Or.inr (ow_19 hw)) (ty := .int) (by decide)
  have F20_chars : Fld Z h20 a20 "com/example/structlane/structlane/header/SourceText" "chars" "[B" (.null) := D20 (Or.inr (ow_42 hw)) (ty := (.array .byte)) (by decide)
  have F20_wide : Fld Z h20 a20 "com/example/structlane/structlane/header/SourceText" "wide" "Ljava/lang/String;" (.null) := D20 (Or.inr (ow_44 hw)) (ty := (.object "java/lang/String")) (by decide)
  have F20_lineStarts : Fld Z h20 a20 "com/example/structlane/structlane/header/SourceText" "lineStarts" "[I" (.null) := D20 (Or.inr (ow_47 hw)) (ty := (.array .int)) (by decide)
  have F20_lines : Fld Z h20 a20 "com/example/structlane/structlane/header/SourceText" "lines" "I" (.int (0 : Int32)) := D20 (Or.inr (ow_50 hw)) (ty := .int) (by decide)
  have F20_lastLine : Fld Z h20 a20 "com/example/structlane/structlane/header/SourceText" "lastLine" "I" (.int (0 : Int32)) := D20 (Or.inl (ow_57 hw)) (ty := .int) (by decide)
  refine own_dup X20 hx (hb hby at_100) rfl (pc' := 101) rfl ?_
  refine own_aload X20 hx (hb hby at_101) rfl rfl (pc' := 103) rfl ?_
  have f23 : own_AI Z h20 a1 .byte (6 : Int32) gb := (fG.ext E20)
  have z24 : n0 ≤ h20.size := (Nat.le_trans z21 E20.1)
  refine own_callC X20 hx hZ rfl hown (ow_9 hw) (ow_10 hw) (ow_8 hw) (ow_11 hw) (by decide) (rm_st1 l Z a0 hw a20 a1 gb .null .null .null (.int (0 : Int32)) (.int (0 : Int32)) h20 n0 z24 A20 F20_chars F20_wide F20_lineStarts F20_lines F20_firstLine F20_lastLine f23 ge_a20 (Nat.ne_of_gt lt_a1_a20) hB6) e20 (W := 1) (by decide) (by decide) opd___B_V rfl (rest := [(.ref a20)]) rfl (hb hby at_103) (Nat.le_of_eq rfl) (by rw [hml]; rfl) (by decide) (by decide) (pc' := 106) rfl ?_
  intro v22 T22 L22 X22 q22
  obtain ⟨gl_22, LL_22, rl_22, rfl, Nq22, K22, gz22_rl_22, p22_0, p22_1, p22_2, p22_3, p22_4, x22_0⟩ := q22
  have lt_a1_rl_22 : a1 < rl_22 := Nat.lt_of_lt_of_le f23.lt gz22_rl_22
  have lt_a20_rl_22 : a20 < rl_22 := Nat.lt_of_lt_of_le A20.lt gz22_rl_22
  have ge_rl_22 : n0 ≤ rl_22 := Nat.le_trans z24 gz22_rl_22
  have N22 := Fr.app N19 Nq22
  show own_G p e below _ (T22.setTop (mkF m 106 #[.val (.int u0), .val (.int u1), .val (.int u2), .val (.int u3), .val (.int u4), .val (.ref a1), .val (.int ((u1 &&& (2147483647 : Int32)) % (7 : Int32))), .val (.int ((u2 &&& (2147483647 : Int32)) % (7 : Int32))), .val (.int ((u3 &&& (2147483647 : Int32)) % (7 : Int32))), .val (.int ((u4 &&& (2147483647 : Int32)) % (7 : Int32))), .unset, .unset] [(.ref a20)]))
  refine own_astore X22 hx (hb hby at_106) rfl (l' := #[.val (.int u0), .val (.int u1), .val (.int u2), .val (.int u3), .val (.int u4), .val (.ref a1), .val (.int ((u1 &&& (2147483647 : Int32)) % (7 : Int32))), .val (.int ((u2 &&& (2147483647 : Int32)) % (7 : Int32))), .val (.int ((u3 &&& (2147483647 : Int32)) % (7 : Int32))), .val (.int ((u4 &&& (2147483647 : Int32)) % (7 : Int32))), .val (.ref a20), .unset]) rfl (pc' := 108) rfl ?_
  refine own_aload X22 hx (hb hby at_108) rfl rfl (pc' := 110) rfl ?_
  refine own_iload X22 hx (hb hby at_110) rfl (pc' := 112) rfl ?_
  have f26 : Exa Z T22.heap a20 "com/example/structlane/structlane/header/SourceText" := (A20.keep K22)
  have z27 : n0 ≤ T22.heap.size := (Nat.le_trans z24 K22.1)
  refine own_callV X22 hx hZ hown (ow_51 hw) (ow_52 hw) (ow_54 hw) (ow_53 hw) (ow_8 hw) (ow_55 hw) (by decide) f26 (rm_lo l Z a0 hw a20 ((u1 &&& (2147483647 : Int32)) % (7 : Int32)) rl_22 LL_22 gl_22 (0 : Int32) (own_tt gb ((u1 &&& (2147483647 : Int32)) % (7 : Int32))) T22.heap n0 z27 f26 p22_0 p22_1 p22_2 p22_3 p22_4 ge_a20 (own_HH x22_0 _ (own_q u1)) (own_hT x22_0 _ (own_q u1)) (own_hL x22_0) (own_hU0 x22_0)) rfl (W := 0) (by decide) (by decide) opd__I_I rfl (rest := []) rfl (hb hby at_112) (Nat.le_of_eq rfl) (by rw [hml]; rfl) (by decide) (by decide) (pc' := 115) rfl ?_
  intro v25 T25 L25 X25 q25
  obtain ⟨rfl, Nq25, K25, p25_0, p25_1, p25_2, p25_3⟩ := q25
  have N25 := Fr.app N22 Nq25
  show own_G p e below _ (T25.setTop (mkF m 115 #[.val (.int u0), .val (.int u1), .val (.int u2), .val (.int u3), .val (.int u4), .val (.ref a1), .val (.int ((u1 &&& (2147483647 : Int32)) % (7 : Int32))), .val (.int ((u2 &&& (2147483647 : Int32)) % (7 : Int32))), .val (.int ((u3 &&& (2147483647 : Int32)) % (7 : Int32))), .val (.int ((u4 &&& (2147483647 : Int32)) % (7 : Int32))), .val (.ref a20), .unset] [(.int ((own_tt gb ((u1 &&& (2147483647 : Int32)) % (7 : Int32))) + (1 : Int32)))]))
  refine own_aload X25 hx (hb hby at_115) rfl rfl (pc' := 117) rfl ?_
  refine own_iload X25 hx (hb hby at_117) rfl (pc' := 119) rfl ?_
  have f29 : own_AI Z T25.heap a1 .byte (6 : Int32) gb := ((f23.keep K22 (ninS (Nat.ne_of_lt lt_a1_a20) nin0)).keep K25 (ninS (Nat.ne_of_lt lt_a1_a20) nin0))
  have z30 : n0 ≤ T25.heap.size := (Nat.le_trans z27 K25.1)
  refine own_callS X25 hx hZ hown (ow_58 hw) (ow_59 hw) (ow_3 hw) (ow_60 hw) (by decide) (rm_ref l Z a0 hw a1 ((u1 &&& (2147483647 : Int32)) % (7 : Int32)) gb T25.heap n0 z30 f29) rfl (W := 1) (by decide) (by decide) opd___BI_I rfl (rest := [(.int ((own_tt gb ((u1 &&& (2147483647 : Int32)) % (7 : Int32))) + (1 : Int32)))]) rfl (hb hby at_119) (Nat.le_of_eq rfl) (by rw [hml]; rfl) (by decide) (by decide) (pc' := 122) rfl ?_
  intro v28 T28 L28 X28 q28
  obtain ⟨rfl, Nq28, eh28⟩ := q28
  have N28 := Fr.app N25 Nq28
  show own_G p e below _ (T28.setTop (mkF m 122 #[.val (.int u0), .val (.int u1), .val (.int u2), .val (.int u3), .val (.int u4), .val (.ref a1), .val (.int ((u1 &&& (2147483647 : Int32)) % (7 : Int32))), .val (.int ((u2 &&& (2147483647 : Int32)) % (7 : Int32))), .val (.int ((u3 &&& (2147483647 : Int32)) % (7 : Int32))), .val (.int ((u4 &&& (2147483647 : Int32)) % (7 : Int32))), .val (.ref a20), .unset] [(.int (((((((1 : Int32) + (own_nl gb (0 : Int32) ((u1 &&& (2147483647 : Int32)) % (7 : Int32)))) + (own_nl gb (1 : Int32) ((u1 &&& (2147483647 : Int32)) % (7 : Int32)))) + (own_nl gb (2 : Int32) ((u1 &&& (2147483647 : Int32)) % (7 : Int32)))) + (own_nl gb (3 : Int32) ((u1 &&& (2147483647 : Int32)) % (7 : Int32)))) + (own_nl gb (4 : Int32) ((u1 &&& (2147483647 : Int32)) % (7 : Int32)))) + (own_nl gb (5 : Int32) ((u1 &&& (2147483647 : Int32)) % (7 : Int32))))), (.int ((own_tt gb ((u1 &&& (2147483647 : Int32)) % (7 : Int32))) + (1 : Int32)))]))
  refine own_icmpF X28 hx (hb hby at_122) (teq (own_fin gb _)).2 (pc' := 125) rfl ?_
  refine own_iconst X28 hx (hb hby at_125) (z := (1 : Int32)) rfl (pc' := 126) rfl ?_
  refine own_goto X28 hx (hb hby at_126) (by decide) (pc' := 130) rfl ?_
  refine own_istore X28 hx (hb hby at_130) (l' := #[.val (.int u0), .val (.int u1), .val (.int u2), .val (.int u3), .val (.int u4), .val (.ref a1), .val (.int ((u1 &&& (2147483647 : Int32)) % (7 : Int32))), .val (.int ((u2 &&& (2147483647 : Int32)) % (7 : Int32))), .val (.int ((u3 &&& (2147483647 : Int32)) % (7 : Int32))), .val (.int ((u4 &&& (2147483647 : Int32)) % (7 : Int32))), .val (.ref a20), .val (.int (1 : Int32))]) rfl (pc' := 132) rfl ?_
  refine own_iload X28 hx (hb hby at_132) rfl (pc' := 134) rfl ?_
  refine own_ifF X28 hx (hb hby at_134) (by decide) (pc' := 137) rfl ?_
  refine own_aload X28 hx (hb hby at_137) rfl rfl (pc' := 139) rfl ?_
  refine own_iload X28 hx (hb hby at_139) rfl (pc' := 141) rfl ?_
  have f32 : Exa Z T25.heap a20 "com/example/structlane/structlane/header/SourceText" := (f26.keep K25)
  have f33 : own_AI Z T25.heap rl_22 .int (64 : Int32) gl_22 := (p22_4.keep K25 (ninS (Nat.ne_of_gt lt_a20_rl_22) nin0))
  refine own_callV X28 hx hZ hown (ow_51 hw) (ow_52 hw) (ow_54 hw) (ow_53 hw) (ow_8 hw) (ow_55 hw) (by decide) f32 (rm_lo l Z a0 hw a20 ((u2 &&& (2147483647 : Int32)) % (7 : Int32)) rl_22 LL_22 gl_22 (own_tt gb ((u1 &&& (2147483647 : Int32)) % (7 : Int32))) (own_tt gb ((u2 &&& (2147483647 : Int32)) % (7 : Int32))) T25.heap n0 z30 f32 p25_0 p25_1 p25_2 p25_3 f33 ge_a20 (own_HH x22_0 _ (own_q u2)) (own_hT x22_0 _ (own_q u2)) (own_hL x22_0) (own_hT x22_0 _ (own_q u1))) eh28 (W := 0) (by decide) (by decide) opd__I_I rfl (rest := []) rfl (hb hby at_141) (Nat.le_of_eq rfl) (by rw [hml]; rfl) (by decide) (by decide) (pc' := 144) rfl ?_
  intro v31 T31 L31 X31 q31
  obtain ⟨rfl, Nq31, K31, p31_0, p31_1, p31_2, p31_3⟩ := q31
  have N31 := Fr.app N28 Nq31
  show own_G p e below _ (T31.setTop (mkF m 144 #[.val (.int u0), .val (.int u1), .val (.int u2), .val (.int u3), .val (.int u4), .val (.ref a1), .val (.int ((u1 &&& (2147483647 : Int32)) % (7 : Int32))), .val (.int ((u2 &&& (2147483647 : Int32)) % (7 : Int32))), .val (.int ((u3 &&& (2147483647 : Int32)) % (7 : Int32))), .val (.int ((u4 &&& (2147483647 : Int32)) % (7 : Int32))), .val (.ref a20), .val (.int (1 : Int32))] [(.int ((own_tt gb ((u2 &&& (2147483647 : Int32)) % (7 : Int32))) + (1 : Int32)))]))
  refine own_aload X31 hx (hb hby at_144) rfl rfl (pc' := 146) rfl ?_
  refine own_iload X31 hx (hb hby at_146) rfl (pc' := 148) rfl ?_
  have f35 : own_AI Z T31.heap a1 .byte (6 : Int32) gb := (f29.keep K31 (ninS (Nat.ne_of_lt lt_a1_a20) nin0))
  have z36 : n0 ≤ T31.heap.size := (Nat.le_trans z30 K31.1)
  refine own_callS X31 hx hZ hown (ow_58 hw) (ow_59 hw) (ow_3 hw) (ow_60 hw) (by decide) (rm_ref l Z a0 hw a1 ((u2 &&& (2147483647 : Int32)) % (7 : Int32)) gb T31.heap n0 z36 f35) rfl (W := 1) (by decide) (by decide) opd___BI_I rfl (rest := [(.int ((own_tt gb ((u2 &&& (2147483647 : Int32)) % (7 : Int32))) + (1 : Int32)))]) rfl (hb hby at_148) (Nat.le_of_eq rfl) (by rw [hml]; rfl) (by decide) (by decide) (pc' := 151) rfl ?_
  intro v34 T34 L34 X34 q34
  obtain ⟨rfl, Nq34, eh34⟩ := q34
  have N34 := Fr.app N31 Nq34
  show own_G p e below _ (T34.setTop (mkF m 151 #[.val (.int u0), .val (.int u1), .val (.int u2), .val (.int u3), .val (.int u4), .val (.ref a1), .val (.int ((u1 &&& (2147483647 : Int32)) % (7 : Int32))), .val (.int ((u2 &&& (2147483647 : Int32)) % (7 : Int32))), .val (.int ((u3 &&& (2147483647 : Int32)) % (7 : Int32))), .val (.int ((u4 &&& (2147483647 : Int32)) % (7 : Int32))), .val (.ref a20), .val (.int (1 : Int32))] [(.int (((((((1 : Int32) + (own_nl gb (0 : Int32) ((u2 &&& (2147483647 : Int32)) % (7 : Int32)))) + (own_nl gb (1 : Int32) ((u2 &&& (2147483647 : Int32)) % (7 : Int32)))) + (own_nl gb (2 : Int32) ((u2 &&& (2147483647 : Int32)) % (7 : Int32)))) + (own_nl gb (3 : Int32) ((u2 &&& (2147483647 : Int32)) % (7 : Int32)))) + (own_nl gb (4 : Int32) ((u2 &&& (2147483647 : Int32)) % (7 : Int32)))) + (own_nl gb (5 : Int32) ((u2 &&& (2147483647 : Int32)) % (7 : Int32))))), (.int ((own_tt gb ((u2 &&& (2147483647 : Int32)) % (7 : Int32))) + (1 : Int32)))]))
  refine own_icmpF X34 hx (hb hby at_151) (teq (own_fin gb _)).2 (pc' := 154) rfl ?_
  refine own_iconst X34 hx (hb hby at_154) (z := (1 : Int32)) rfl (pc' := 155) rfl ?_
  refine own_goto X34 hx (hb hby at_155) (by decide) (pc' := 159) rfl ?_
  refine own_istore X34 hx (hb hby at_159) (l' := #[.val (.int u0), .val (.int u1), .val (.int u2), .val (.int u3), .val (.int u4), .val (.ref a1), .val (.int ((u1 &&& (2147483647 : Int32)) % (7 : Int32))), .val (.int ((u2 &&& (2147483647 : Int32)) % (7 : Int32))), .val (.int ((u3 &&& (2147483647 : Int32)) % (7 : Int32))), .val (.int ((u4 &&& (2147483647 : Int32)) % (7 : Int32))), .val (.ref a20), .val (.int (1 : Int32))]) rfl (pc' := 161) rfl ?_
  refine own_iload X34 hx (hb hby at_161) rfl (pc' := 163) rfl ?_
  refine own_ifF X34 hx (hb hby at_163) (by decide) (pc' := 166) rfl ?_
  refine own_aload X34 hx (hb hby at_166) rfl rfl (pc' := 168) rfl ?_
  refine own_iload X34 hx (hb hby at_168) rfl (pc' := 170) rfl ?_
  have f38 : Exa Z T31.heap a20 "com/example/structlane/structlane/header/SourceText" := (f32.keep K31)
  have f39 : own_AI Z T31.heap rl_22 .int (64 : Int32) gl_22 := (f33.keep K31 (ninS (Nat.ne_of_gt lt_a20_rl_22) nin0))
  refine own_callV X34 hx hZ hown (ow_51 hw) (ow_52 hw) (ow_54 hw) (ow_53 hw) (ow_8 hw) (ow_55 hw) (by decide) f38 (rm_lo l Z a0 hw a20 ((u3 &&& (2147483647 : Int32)) % (7 : Int32)) rl_22 LL_22 gl_22 (own_tt gb ((u2 &&& (2147483647 : Int32)) % (7 : Int32))) (own_tt gb ((u3 &&& (2147483647 : Int32)) % (7 : Int32))) T31.heap n0 z36 f38 p31_0 p31_1 p31_2 p31_3 f39 ge_a20 (own_HH x22_0 _ (own_q u3)) (own_hT x22_0 _ (own_q u3)) (own_hL x22_0) (own_hT x22_0 _ (own_q u2))) eh34 (W := 0) (by decide) (by decide) opd__I_I rfl (rest := []) rfl (hb hby at_170) (Nat.le_of_eq rfl) (by rw [hml]; rfl) (by decide) (by decide) (pc' := 173) rfl ?_
  intro v37 T37 L37 X37 q37
  obtain ⟨rfl, Nq37, K37, p37_0, p37_1, p37_2, p37_3⟩ := q37
  have N37 := Fr.app N34 Nq37
  show own_G p e below _ (T37.setTop (mkF m 173 #[.val (.int u0), .val (.int u1), .val (.int u2), .val (.int u3), .val (.int u4), .val (.ref a1), .val (.int ((u1 &&& (2147483647 : Int32)) % (7 : Int32))), .val (.int ((u2 &&& (2147483647 : Int32)) % (7 : Int32))), .val (.int ((u3 &&& (2147483647 : Int32)) % (7 : Int32))), .val (.int ((u4 &&& (2147483647 : Int32)) % (7 : Int32))), .val (.ref a20), .val (.int (1 : Int32))] [(.int ((own_tt gb ((u3 &&& (2147483647 : Int32)) % (7 : Int32))) + (1 : Int32)))]))
  refine own_aload X37 hx (hb hby at_173) rfl rfl (pc' := 175) rfl ?_
  refine own_iload X37 hx (hb hby at_175) rfl (pc' := 177) rfl ?_
  have f41 : own_AI Z T37.heap a1 .byte (6 : Int32) gb := (f35.keep K37 (ninS (Nat.ne_of_lt lt_a1_a20) nin0))
  have z42 : n0 ≤ T37.heap.size := (Nat.le_trans z36 K37.1)
  refine own_callS X37 hx hZ hown (ow_58 hw) (ow_59 hw) (ow_3 hw) (ow_60 hw) (by decide) (rm_ref l Z a0 hw a1 ((u3 &&& (2147483647 : Int32)) % (7 : Int32)) gb T37.heap n0 z42 f41) rfl (W := 1) (by decide) (by decide) opd___BI_I rfl (rest := [(.int ((own_tt gb ((u3 &&& (2147483647 : Int32)) % (7 : Int32))) + (1 : Int32)))]) rfl (hb hby at_177) (Nat.le_of_eq rfl) (by rw [hml]; rfl) (by decide) (by decide) (pc' := 180) rfl ?_
  intro v40 T40 L40 X40 q40
  obtain ⟨rfl, Nq40, eh40⟩ := q40
  have N40 := Fr.app N37 Nq40
  show own_G p e below _ (T40.setTop (mkF m 180 #[.val (.int u0), .val (.int u1), .val (.int u2), .val (.int u3), .val (.int u4), .val (.ref a1), .val (.int ((u1 &&& (2147483647 : Int32)) % (7 : Int32))), .val (.int ((u2 &&& (2147483647 : Int32)) % (7 : Int32))), .val (.int ((u3 &&& (2147483647 : Int32)) % (7 : Int32))), .val (.int ((u4 &&& (2147483647 : Int32)) % (7 : Int32))), .val (.ref a20), .val (.int (1 : Int32))] [(.int (((((((1 : Int32) + (own_nl gb (0 : Int32) ((u3 &&& (2147483647 : Int32)) % (7 : Int32)))) + (own_nl gb (1 : Int32) ((u3 &&& (2147483647 : Int32)) % (7 : Int32)))) + (own_nl gb (2 : Int32) ((u3 &&& (2147483647 : Int32)) % (7 : Int32)))) + (own_nl gb (3 : Int32) ((u3 &&& (2147483647 : Int32)) % (7 : Int32)))) + (own_nl gb (4 : Int32) ((u3 &&& (2147483647 : Int32)) % (7 : Int32)))) + (own_nl gb (5 : Int32) ((u3 &&& (2147483647 : Int32)) % (7 : Int32))))), (.int ((own_tt gb ((u3 &&& (2147483647 : Int32)) % (7 : Int32))) + (1 : Int32)))]))
  refine own_icmpF X40 hx (hb hby at_180) (teq (own_fin gb _)).2 (pc' := 183) rfl ?_
  refine own_iconst X40 hx (hb hby at_183) (z := (1 : Int32)) rfl (pc' := 184) rfl ?_
  refine own_goto X40 hx (hb hby at_184) (by decide) (pc' := 188) rfl ?_
  refine own_istore X40 hx (hb hby at_188) (l' := #[.val (.int u0), .val (.int u1), .val (.int u2), .val (.int u3), .val (.int u4), .val (.ref a1), .val (.int ((u1 &&& (2147483647 : Int32)) % (7 : Int32))), .val (.int ((u2 &&& (2147483647 : Int32)) % (7 : Int32))), .val (.int ((u3 &&& (2147483647 : Int32)) % (7 : Int32))), .val (.int ((u4 &&& (2147483647 : Int32)) % (7 : Int32))), .val (.ref a20), .val (.int (1 : Int32))]) rfl (pc' := 190) rfl ?_
  refine own_iload X40 hx (hb hby at_190) rfl (pc' := 192) rfl ?_
  refine own_ifF X40 hx (hb hby at_192) (by decide) (pc' := 195) rfl ?_
  refine own_aload X40 hx (hb hby at_195) rfl rfl (pc' := 197) rfl ?_
  refine own_iload X40 hx (hb hby at_197) rfl (pc' := 199) rfl ?_
  have f44 : Exa Z T37.heap a20 "com/example/structlane/structlane/header/SourceText" := (f38.keep K37)
  have f45 : own_AI Z T37.heap rl_22 .int (64 : Int32) gl_22 := (f39.keep K37 (ninS (Nat.ne_of_gt lt_a20_rl_22) nin0))
  refine own_callV X40 hx hZ hown (ow_51 hw) (ow_52 hw) (ow_54 hw) (ow_53 hw) (ow_8 hw) (ow_55 hw) (by decide) f44 (rm_lo l Z a0 hw a20 ((u4 &&& (2147483647 : Int32)) % (7 : Int32)) rl_22 LL_22 gl_22 (own_tt gb ((u3 &&& (2147483647 : Int32)) % (7 : Int32))) (own_tt gb ((u4 &&& (2147483647 : Int32)) % (7 : Int32))) T37.heap n0 z42 f44 p37_0 p37_1 p37_2 p37_3 f45 ge_a20 (own_HH x22_0 _ (own_q u4)) (own_hT x22_0 _ (own_q u4)) (own_hL x22_0) (own_hT x22_0 _ (own_q u3))) eh40 (W := 0) (by decide) (by decide) opd__I_I rfl (rest := []) rfl (hb hby at_199) (Nat.le_of_eq rfl) (by rw [hml]; rfl) (by decide) (by decide) (pc' := 202) rfl ?_
  intro v43 T43 L43 X43 q43
  obtain ⟨rfl, Nq43, K43, p43_0, p43_1, p43_2, p43_3⟩ := q43
  have N43 := Fr.app N40 Nq43
  show own_G p e below _ (T43.setTop (mkF m 202 #[.val (.int u0), .val (.int u1), .val (.int u2), .val (.int u3), .val (.int u4), .val (.ref a1), .val (.int ((u1 &&& (2147483647 : Int32)) % (7 : Int32))), .val (.int ((u2 &&& (2147483647 : Int32)) % (7 : Int32))), .val (.int ((u3 &&& (2147483647 : Int32)) % (7 : Int32))), .val (.int ((u4 &&& (2147483647 : Int32)) % (7 : Int32))), .val (.ref a20), .val (.int (1 : Int32))] [(.int ((own_tt gb ((u4 &&& (2147483647 : Int32)) % (7 : Int32))) + (1 : Int32)))]))
  refine own_aload X43 hx (hb hby at_202) rfl rfl (pc' := 204) rfl ?_
  refine own_iload X43 hx (hb hby at_204) rfl (pc' := 206) rfl ?_
  have f47 : own_AI Z T43.heap a1 .byte (6 : Int32) gb := (f41.keep K43 (ninS (Nat.ne_of_lt lt_a1_a20) nin0))
  have z48 : n0 ≤ T43.heap.size := (Nat.le_trans z42 K43.1)
  refine own_callS X43 hx hZ hown (ow_58 hw) (ow_59 hw) (ow_3 hw) (ow_60 hw) (by decide) (rm_ref l Z a0 hw a1 ((u4 &&& (2147483647 : Int32)) % (7 : Int32)) gb T43.heap n0 z48 f47) rfl (W := 1) (by decide) (by decide) opd___BI_I rfl (rest := [(.int ((own_tt gb ((u4 &&& (2147483647 : Int32)) % (7 : Int32))) + (1 : Int32)))]) rfl (hb hby at_206) (Nat.le_of_eq rfl) (by rw [hml]; rfl) (by decide) (by decide) (pc' := 209) rfl ?_
  intro v46 T46 L46 X46 q46
  obtain ⟨rfl, Nq46, eh46⟩ := q46
  have N46 := Fr.app N43 Nq46
  show own_G p e below _ (T46.setTop (mkF m 209 #[.val (.int u0), .val (.int u1), .val (.int u2), .val (.int u3), .val (.int u4), .val (.ref a1), .val (.int ((u1 &&& (2147483647 : Int32)) % (7 : Int32))), .val (.int ((u2 &&& (2147483647 : Int32)) % (7 : Int32))), .val (.int ((u3 &&& (2147483647 : Int32)) % (7 : Int32))), .val (.int ((u4 &&& (2147483647 : Int32)) % (7 : Int32))), .val (.ref a20), .val (.int (1 : Int32))] [(.int (((((((1 : Int32) + (own_nl gb (0 : Int32) ((u4 &&& (2147483647 : Int32)) % (7 : Int32)))) + (own_nl gb (1 : Int32) ((u4 &&& (2147483647 : Int32)) % (7 : Int32)))) + (own_nl gb (2 : Int32) ((u4 &&& (2147483647 : Int32)) % (7 : Int32)))) + (own_nl gb (3 : Int32) ((u4 &&& (2147483647 : Int32)) % (7 : Int32)))) + (own_nl gb (4 : Int32) ((u4 &&& (2147483647 : Int32)) % (7 : Int32)))) + (own_nl gb (5 : Int32) ((u4 &&& (2147483647 : Int32)) % (7 : Int32))))), (.int ((own_tt gb ((u4 &&& (2147483647 : Int32)) % (7 : Int32))) + (1 : Int32)))]))
  refine own_icmpF X46 hx (hb hby at_209) (teq (own_fin gb _)).2 (pc' := 212) rfl ?_
  refine own_iconst X46 hx (hb hby at_212) (z := (1 : Int32)) rfl (pc' := 213) rfl ?_
  refine own_goto X46 hx (hb hby at_213) (by decide) (pc' := 217) rfl ?_
  refine own_istore X46 hx (hb hby at_217) (l' := #[.val (.int u0), .val (.int u1), .val (.int u2), .val (.int u3), .val (.int u4), .val (.ref a1), .val (.int ((u1 &&& (2147483647 : Int32)) % (7 : Int32))), .val (.int ((u2 &&& (2147483647 : Int32)) % (7 : Int32))), .val (.int ((u3 &&& (2147483647 : Int32)) % (7 : Int32))), .val (.int ((u4 &&& (2147483647 : Int32)) % (7 : Int32))), .val (.ref a20), .val (.int (1 : Int32))]) rfl (pc' := 219) rfl ?_
  refine own_iload X46 hx (hb hby at_219) rfl (pc' := 221) rfl ?_
  exact own_retZ X46 hx hret hlk (Or.inr rfl) (hb hby at_221) ⟨rfl, N46⟩ (by decide) (by decide)
set_option maxRecDepth 65536 in
set_option maxHeartbeats 40000000 in
theorem comes_1 {Post : Tables → Env → Array Value → State → Outcome → State → Prop} (hpost : ∀ tb e args s v u, (limb_1_1.after args s (.returned v) u = true ∧ limb_1_2.after args s (.returned v) u = true ∧ True) → FrameEnd s (.returned v) u (Jvm.fieldLocs frame_1_writes args s ++ Jvm.arrayLocs frame_1_arrays args s ++ Jvm.staticLocs frame_1_statics s) 24 256 → Post tb e args s (.returned v) u) :
    ArmFor flags0 classFile x code maxLocals ret World_1 tables_1 room_1 Calls_1 rest_1 Pre_1 Post := by
  intro l hfl _ _ p e ha hc hk s m args below hf hA hF happ hP
  obtain ⟨hcalls, hrest, hpre⟩ := hP
  obtain ⟨-, -, -, hnamed, -, -, -, hat⟩ := (Spec.applies_iff hf).mp happ
  obtain ⟨hg, hn⟩ := and_e (Cond.before_iff.mp (show (Jvm.Cond.and given_1 narrow_1).before args s = true from hpre))
  obtain ⟨gc, gr0⟩ := and_e hg
  obtain ⟨gk0, gr1⟩ := and_e gr0
  obtain ⟨gk1, gr2⟩ := and_e gr1
  obtain ⟨gk2, gr3⟩ := and_e gr2
  obtain ⟨gk3, gr4⟩ := and_e gr3
  obtain ⟨w0, w1, w2, w3, w4, rfl⟩ : ∃ w0 w1 w2 w3 w4 : Value, args = #[w0, w1, w2, w3, w4] := by
    have hs : args.size = 5 := by simpa [Cond.value, given_1] using gc
    obtain ⟨L⟩ := args
    match L, hs with
    | [w0, w1, w2, w3, w4], _ => exact ⟨w0, w1, w2, w3, w4, rfl⟩
  have hw := fun d (hd : d ∈ tables_1) => atoms_spec (ws := Jvm.Cond.code x code maxLocals ret :: tables_1) hat d (List.mem_cons_of_mem _ hd)
  obtain ⟨i0, ei0⟩ := is_v gk0
  obtain rfl : w0 = (.int i0) := Option.some.inj ei0
  obtain ⟨i1, ei1⟩ := is_v gk1
  obtain rfl : w1 = (.int i1) := Option.some.inj ei1
  obtain ⟨i2, ei2⟩ := is_v gk2
  obtain rfl : w2 = (.int i2) := Option.some.inj ei2
  obtain ⟨i3, ei3⟩ := is_v gk3
  obtain rfl : w3 = (.int i3) := Option.some.inj ei3
  obtain ⟨i4, ei4⟩ := is_v gr4
  obtain rfl : w4 = (.int i4) := Option.some.inj ei4
  obtain ⟨n, o, h1, h2, h3, _, L, rfl, ⟨rfl, N⟩, hq⟩ := own_law l s _ hw i0 i1 i2 i3 i4 s.heap s.heap.size (Nat.le_refl _) p e ha hc hk s m _ below hf ((Spec.applies_iff_loose hf).mp happ).1 ⟨rfl, State.Warmed39.refl s, rfl⟩ trivial
  refine ⟨n, _, h1, h2, h3, hpost _ _ _ _ _ _ ⟨Cond.after_iff.mpr rfl, Cond.after_iff.mpr (eq_i res_at (Term.int_eval (1)) rfl), trivial⟩ ⟨hq.1, hq.2.1, (hq.2.2.sift fun y hy => Or.inr (N y hy)).mono (by decide) (by decide)⟩⟩
theorem main_1_1 : Claimed_1_1 := comes_1 fun _ _ _ _ _ _ h hF => ⟨h.1, hF⟩
theorem main_1_2 : Claimed_1_2 := comes_1 fun _ _ _ _ _ _ h hF => ⟨h.2.1, hF⟩
end Jvm.Pilot.@@N@@
namespace Jvm.Pilot.@@N@@
open Jvm Jvm.ClassFile Sem Op Lib Jvm.Free Jvm.Stand Jvm.Pilot.@@N@@.Jvm.D
/-! MADE BY PROGRAM (witnessworld.py) out of the Statement's table words and the real class files: 10 classes; the members and pool entries that the words name. The judged class is class 1, her method 1. -/
namespace start1
open Jvm.ClassFile
def u (s : String) : CpInfo := .utf8 (stringToUtf16 s)
/-- a pool by its gaps: so many unusable entries, then the entry; so many at the end -/
def gap : Nat → List CpInfo → List CpInfo
  | 0, r => r
  | n + 1, r => .unusable :: gap n r
def poolList (es : List (Nat × CpInfo)) (last : Nat) : List CpInfo := es.foldr (fun e r => gap e.1 (e.2 :: r)) (gap last [])
def pool (es : List (Nat × CpInfo)) (last : Nat) : Array CpInfo := ⟨poolList es last⟩
def fileOf (pool : Array CpInfo) (this : Nat) (attrs : Array Attribute := #[]) (ms : Array MethodInfo := #[]) (fl : Nat := 33) (sup : Nat := 0) (ifs : Array Nat := #[]) (fds : Array FieldInfo := #[]) : ClassFile where
  minorVersion := 0
  majorVersion := 65
  constantPool := pool
  accessFlags := fl
  thisClass := this
  superClass := sup
  interfaces := ifs
  fields := fds
  methods := ms
  attributes := attrs
def plain (name : String) (sup : Option ClassId) : Class where
  name := name
  kind := .ordinary
  loader := none
  accessFlags := 33
  super := sup
  interfaces := #[]
  cf := none
  fields := #[]
  methods := #[]
  instanceTypes := #[]
  staticTypes := #[]
  resolved := #[]
  callSites := []
  init := .initialized
  statics := none
  mirror := none

def pool0 : Array CpInfo := pool [(5, u "<init>"), (0, u "()V"), (1, .class_ 10), (1, u "java/lang/Object")] 113

def k0c0 : Code := { maxStack := 0, maxLocals := 1, code := object_method_1_code, exceptionTable := #[], attributes := #[] }
def k0m0 : Method := { name := "<init>", desc := "()V", sig := { parameters := [], returnType := none }, accessFlags := 1, code := some k0c0 }
/-- java/lang/Object -/
def k0 : Class := { plain "java/lang/Object" none with
  accessFlags := 33
  interfaces := #[]
  cf := some (fileOf pool0 8 #[] #[{ accessFlags := 1, nameIndex := 5, descriptorIndex := 6, attributes := #[] }] 33 0 #[] #[])
  fields := #[]
  methods := #[k0m0]
  instanceTypes := #[]
  staticTypes := #[]
  resolved := Array.replicate 124 none
  statics := none }

def pool1 : Array CpInfo := pool [(2, .class_ 4), (1, u "java/lang/Object"), (0, u "<init>"), (0, u "()V"), (0, .methodref 8 9), (0, .class_ 10), (0, .nameAndType 11 12), (0, u "com/example/structlane/structlane/header/SourceTextLineOfPinLaw"), (0, u "pick"), (0, u "(II)B"), (0, .integer 2147483647), (0, .class_ 15), (0, u "com/example/structlane/structlane/header/SourceText"), (0, .methodref 14 17), (0, .nameAndType 5 18), (0, u "([B)V"), (0, .methodref 14 20), (0, .nameAndType 21 22), (0, u "lineOf"), (0, u "(I)I"), (0, .methodref 8 24), (0, .nameAndType 25 26), (0, u "ref"), (0, u "([BI)I"), (0, .methodref 8 28), (0, .nameAndType 29 30), (0, u "nl"), (0, u "([BII)I"), (2, u "law"), (0, u "(IIIII)Z")] 5

def k1m0 : Method := { name := "<init>", desc := "()V", sig := { parameters := [], returnType := none }, accessFlags := 1, code := none }
def k1c1 : Code := { maxStack := 4, maxLocals := 12, code := code, exceptionTable := #[], attributes := #[] }
def k1m1 : Method := { name := "law", desc := "(IIIII)Z", sig := { parameters := [.int, .int, .int, .int, .int], returnType := some .boolean }, accessFlags := 9, code := some k1c1 }
def k1c2 : Code := { maxStack := 2, maxLocals := 2, code := method_3_code, exceptionTable := #[], attributes := #[] }
def k1m2 : Method := { name := "pick", desc := "(II)B", sig := { parameters := [.int, .int], returnType := some .byte }, accessFlags := 10, code := some k1c2 }
def k1c3 : Code := { maxStack := 2, maxLocals := 3, code := method_4_code, exceptionTable := #[], attributes := #[] }
def k1m3 : Method := { name := "nl", desc := "([BII)I", sig := { parameters := [(.array .byte), .int, .int], returnType := some .int }, accessFlags := 10, code := some k1c3 }
def k1c4 : Code := { maxStack := 4, maxLocals := 2, code := method_5_code, exceptionTable := #[], attributes := #[] }
def k1m4 : Method := { name := "ref", desc := "([BI)I", sig := { parameters := [(.array .byte), .int], returnType := some .int }, accessFlags := 10, code := some k1c4 }
/-- com/example/structlane/structlane/header/SourceTextLineOfPinLaw -/
def k1 : Class := { plain "com/example/structlane/structlane/header/SourceTextLineOfPinLaw" (some 0) with
  accessFlags := 49
  interfaces := #[]
  cf := some (fileOf pool1 8 #[] #[{ accessFlags := 1, nameIndex := 5, descriptorIndex := 6, attributes := #[] }, { accessFlags := 9, nameIndex := 33, descriptorIndex := 34, attributes := #[] }, { accessFlags := 10, nameIndex := 11, descriptorIndex := 12, attributes := #[] }, { accessFlags := 10, nameIndex := 29, descriptorIndex := 30, attributes := #[] }, { accessFlags := 10, nameIndex := 25, descriptorIndex := 26, attributes := #[] }] 49 2 #[] #[])
  fields := #[]
  methods := #[k1m0, k1m1, k1m2, k1m3, k1m4]
  instanceTypes := #[]
  staticTypes := #[]
  resolved := Array.replicate 40 none
  statics := none }

def pool2 : Array CpInfo := pool [(1, .methodref 2 3), (0, .class_ 4), (0, .nameAndType 5 6), (0, u "com/example/structlane/structlane/header/SourceText"), (0, u "<init>"), (0, u "([BLjava/lang/String;I)V"), (7, .methodref 15 16), (0, .class_ 17), (0, .nameAndType 5 18), (0, u "java/lang/Object"), (0, u "()V"), (0, .fieldref 2 20), (0, .nameAndType 21 22), (0, u "firstLine"), (0, u "I"), (0, .class_ 24), (0, u "com/example/structlane/structlane/header/SourceText$Joins"), (0, .methodref 23 26), (0, .nameAndType 5 27), (0, u "([B)V"), (0, .methodref 23 29), (0, .nameAndType 30 31), (0, u "applied"), (0, u "([B)[B"), (0, .fieldref 2 33), (0, .nameAndType 34 35), (0, u "chars"), (0, u "[B"), (7, .fieldref 2 44), (0, .nameAndType 45 46), (0, u "wide"), (0, u "Ljava/lang/String;"), (0, .fieldref 23 48), (0, .nameAndType 49 50), (0, u "lineStarts"), (0, u "[I"), (0, .fieldref 2 48), (0, .fieldref 23 53), (0, .nameAndType 54 22), (0, u "lines"), (0, .fieldref 2 53), (8, u "ONE_LINE"), (11, u "lineOf"), (0, u "(I)I"), (17, .fieldref 2 96), (0, .nameAndType 97 22), (0, u "lastLine"), (12, u "WIDE"), (0, u "B")] 24

def k2c0 : Code := { maxStack := 4, maxLocals := 2, code := prog_190_method_1_code, exceptionTable := #[], attributes := #[] }
def k2m0 : Method := { name := "<init>", desc := "([B)V", sig := { parameters := [(.array .byte)], returnType := none }, accessFlags := 0, code := some k2c0 }
def k2c1 : Code := { maxStack := 3, maxLocals := 5, code := prog_190_method_4_code, exceptionTable := #[], attributes := #[] }
def k2m1 : Method := { name := "<init>", desc := "([BLjava/lang/String;I)V", sig := { parameters := [(.array .byte), (.object "java/lang/String"), .int], returnType := none }, accessFlags := 2, code := some k2c1 }
def k2c2 : Code := { maxStack := 4, maxLocals := 8, code := prog_190_method_13_code, exceptionTable := #[], attributes := #[] }
def k2m2 : Method := { name := "lineOf", desc := "(I)I", sig := { parameters := [.int], returnType := some .int }, accessFlags := 0, code := some k2c2 }
/-- com/example/structlane/structlane/header/SourceText -/
def k2 : Class := { plain "com/example/structlane/structlane/header/SourceText" (some 0) with
  accessFlags := 48
  interfaces := #[]
  cf := some (fileOf pool2 2 #[.nestMembers #[23]] #[{ accessFlags := 0, nameIndex := 5, descriptorIndex := 27, attributes := #[] }, { accessFlags := 2, nameIndex := 5, descriptorIndex := 6, attributes := #[] }, { accessFlags := 0, nameIndex := 76, descriptorIndex := 77, attributes := #[] }] 48 15 #[] #[{ accessFlags := 24, nameIndex := 110, descriptorIndex := 111, attributes := #[] }, { accessFlags := 26, nameIndex := 64, descriptorIndex := 50, attributes := #[] }, { accessFlags := 18, nameIndex := 34, descriptorIndex := 35, attributes := #[] }, { accessFlags := 18, nameIndex := 45, descriptorIndex := 46, attributes := #[] }, { accessFlags := 18, nameIndex := 49, descriptorIndex := 50, attributes := #[] }, { accessFlags := 18, nameIndex := 54, descriptorIndex := 22, attributes := #[] }, { accessFlags := 18, nameIndex := 21, descriptorIndex := 22, attributes := #[] }, { accessFlags := 2, nameIndex := 97, descriptorIndex := 22, attributes := #[] }])
  fields := #[{ name := "WIDE", type := .byte, accessFlags := 24, slot := 0, constantValue := 0 }, { name := "ONE_LINE", type := (.array .int), accessFlags := 26, slot := 1, constantValue := 0 }, { name := "chars", type := (.array .byte), accessFlags := 18, slot := 0, constantValue := 0 }, { name := "wide", type := (.object "java/lang/String"), accessFlags := 18, slot := 1, constantValue := 0 }, { name := "lineStarts", type := (.array .int), accessFlags := 18, slot := 2, constantValue := 0 }, { name := "lines", type := .int, accessFlags := 18, slot := 3, constantValue := 0 }, { name := "firstLine", type := .int, accessFlags := 18, slot := 4, constantValue := 0 }, { name := "lastLine", type := .int, accessFlags := 2, slot := 5, constantValue := 0 }]
  methods := #[k2m0, k2m1, k2m2]
  instanceTypes := #[(.array .byte), (.object "java/lang/String"), (.array .int), .int, .int, .int]
  staticTypes := #[.byte, (.array .int)]
  resolved := ((Array.replicate 136 none).setIfInBounds 47 (some (.field 3 3))).setIfInBounds 52 (some (.field 3 4))
  statics := none }

def pool3 : Array CpInfo := pool [(1, .methodref 2 3), (0, .class_ 4), (0, .nameAndType 5 6), (0, u "java/lang/Object"), (0, u "<init>"), (0, u "()V"), (0, .fieldref 8 9), (0, .class_ 10), (0, .nameAndType 11 12), (0, u "com/example/structlane/structlane/header/SourceText$Joins"), (0, u "changes"), (0, u "[I"), (0, .fieldref 8 14), (0, .nameAndType 15 12), (0, u "lineStarts"), (0, .fieldref 8 17), (0, .nameAndType 18 19), (0, u "lines"), (0, u "I"), (0, .fieldref 8 21), (0, .nameAndType 22 19), (0, u "deleted"), (0, .methodref 8 24), (0, .nameAndType 25 26), (0, u "startLine"), (0, u "(I)V"), (1, .class_ 30), (1, u "com/example/structlane/structlane/header/SourceText"), (9, .fieldref 8 41), (0, .nameAndType 42 19), (0, u "count"), (37, u "([B)V"), (5, u "applied"), (0, u "([B)[B")] 6

def k3c0 : Code := { maxStack := 5, maxLocals := 6, code := prog_191_method_1_code, exceptionTable := #[], attributes := #[] }
def k3m0 : Method := { name := "<init>", desc := "([B)V", sig := { parameters := [(.array .byte)], returnType := none }, accessFlags := 0, code := some k3c0 }
def k3c1 : Code := { maxStack := 6, maxLocals := 7, code := prog_191_method_2_code, exceptionTable := #[], attributes := #[] }
def k3m1 : Method := { name := "applied", desc := "([B)[B", sig := { parameters := [(.array .byte)], returnType := some (.array .byte) }, accessFlags := 0, code := some k3c1 }
def k3c2 : Code := { maxStack := 5, maxLocals := 2, code := prog_191_method_5_code, exceptionTable := #[], attributes := #[] }
def k3m2 : Method := { name := "startLine", desc := "(I)V", sig := { parameters := [.int], returnType := none }, accessFlags := 2, code := some k3c2 }
/-- com/example/structlane/structlane/header/SourceText$Joins -/
def k3 : Class := { plain "com/example/structlane/structlane/header/SourceText$Joins" (some 0) with
  accessFlags := 48
  interfaces := #[]
  cf := some (fileOf pool3 8 #[.nestHost 28] #[{ accessFlags := 0, nameIndex := 5, descriptorIndex := 80, attributes := #[] }, { accessFlags := 0, nameIndex := 86, descriptorIndex := 87, attributes := #[] }, { accessFlags := 2, nameIndex := 25, descriptorIndex := 26, attributes := #[] }] 48 2 #[] #[{ accessFlags := 2, nameIndex := 11, descriptorIndex := 12, attributes := #[] }, { accessFlags := 2, nameIndex := 42, descriptorIndex := 19, attributes := #[] }, { accessFlags := 2, nameIndex := 22, descriptorIndex := 19, attributes := #[] }, { accessFlags := 2, nameIndex := 15, descriptorIndex := 12, attributes := #[] }, { accessFlags := 2, nameIndex := 18, descriptorIndex := 19, attributes := #[] }])
  fields := #[{ name := "changes", type := (.array .int), accessFlags := 2, slot := 0, constantValue := 0 }, { name := "count", type := .int, accessFlags := 2, slot := 1, constantValue := 0 }, { name := "deleted", type := .int, accessFlags := 2, slot := 2, constantValue := 0 }, { name := "lineStarts", type := (.array .int), accessFlags := 2, slot := 3, constantValue := 0 }, { name := "lines", type := .int, accessFlags := 2, slot := 4, constantValue := 0 }]
  methods := #[k3m0, k3m1, k3m2]
  instanceTypes := #[(.array .int), .int, .int, (.array .int), .int]
  staticTypes := #[]
  resolved := Array.replicate 94 none
  statics := none }

def pool4 : Array CpInfo := pool [(1, u "java/lang/Cloneable"), (0, .class_ 1), (0, u "java/lang/Object"), (0, .class_ 3)] 3

/-- java/lang/Cloneable -/
def k4 : Class := { plain "java/lang/Cloneable" (some 0) with
  accessFlags := 1537
  interfaces := #[]
  cf := some (fileOf pool4 2 #[] #[] 1537 4 #[] #[])
  fields := #[]
  methods := #[]
  instanceTypes := #[]
  staticTypes := #[]
  resolved := Array.replicate 8 none
  statics := none }

def pool5 : Array CpInfo := pool [(1, u "java/io/Serializable"), (0, .class_ 1), (0, u "java/lang/Object"), (0, .class_ 3)] 3

/-- java/io/Serializable -/
def k5 : Class := { plain "java/io/Serializable" (some 0) with
  accessFlags := 1537
  interfaces := #[]
  cf := some (fileOf pool5 2 #[] #[] 1537 4 #[] #[])
  fields := #[]
  methods := #[]
  instanceTypes := #[]
  staticTypes := #[]
  resolved := Array.replicate 8 none
  statics := none }

/-- the primitive byte -/
def k6 : Class := { plain "byte" none with kind := .primitive 'B', accessFlags := 0x411 }
/-- [B -/
def k7 : Class := { plain "[B" (some 0) with kind := .array 6 .byte, interfaces := #[4, 5], accessFlags := 1041 }

/-- the primitive int -/
def k8 : Class := { plain "int" none with kind := .primitive 'I', accessFlags := 0x411 }
/-- [I -/
def k9 : Class := { plain "[I" (some 0) with kind := .array 8 .int, interfaces := #[4, 5], accessFlags := 1041 }

def heap : Heap := #[]
def classes : Array Class := #[k0, k1, k2, k3, k4, k5, k6, k7, k8, k9]
def interned : List (Array UInt16 × Addr) := []
def slotsUsed : Nat := 0
def theMethod : MethodId := ⟨1, 1⟩
def args0 : Array Value := #[.int 21, .int 3, .int 4, .int 5, .int 6]
def aboutOver (below : List Frame) : State where
  vm := { classes := classes, interned := interned.toArray }
  heap := heap
  slotsUsed := slotsUsed
  threads := #[{ frames := .invoking theMethod args0 :: below }]
def below0 : List Frame := [.native { method := ⟨0, 0⟩, args := #[] }]
def about1 : State := aboutOver below0
def p0 : Program := .bare "" "" ""
def e0 : Env := launch0.env 0 0 0
theorem w_frames : about1.frames = Frame.invoking theMethod args0 :: below0 := rfl
set_option maxRecDepth 65536 in
theorem w_args : argsFit about1.vm theMethod args0 = true := by decide +kernel
set_option maxRecDepth 65536 in
theorem w_heap : heapFits about1 = true := by decide +kernel
set_option maxRecDepth 65536 in
theorem w_runnable : about1.curStatus? = some .runnable := by decide +kernel
set_option maxRecDepth 65536 in
theorem w_alone : about1.alone = true := by decide +kernel
set_option maxRecDepth 65536 in
theorem w_named : about1.methodNamed? x = some theMethod := by decide +kernel
set_option maxRecDepth 65536 in
theorem w_hears : about1.hears theMethod below0 = true := by decide +kernel
set_option maxRecDepth 65536 in
theorem w_ripe : about1.ripe theMethod args0 below0 = true := by decide +kernel
theorem w_running : about1.status = .running := rfl
set_option maxRecDepth 65536 in
theorem w_room : about1.hasRoom e0.platform room_1 = true :=
  launch0.hasRoom_least _ room_1 (by decide +kernel) (by decide +kernel) (by decide +kernel) (by decide +kernel) (by decide +kernel) (by decide +kernel)
theorem allAtoms_all (ts : List Jvm.Cond) (a : Array Jvm.Value) (st : Jvm.State) : (allAtoms ts).before a st = ts.all (fun c => c.before a st) := by
  induction ts with
  | nil => rfl
  | cons c t ih =>
    show (Jvm.Cond.and c (allAtoms t)).before a st = _
    rw [Jvm.Cond.before_and, ih, List.all_cons]
def words1 : List Jvm.Cond := Jvm.Cond.code x code maxLocals ret :: tables_1
/-- a 'code' word, met by the world's own term for the bytes: nothing is compared byte by byte -/
theorem code_word {y : MethodName} {bytes : ByteArray} {mx : Nat} {rt : Option FieldType} {a : Array Value} {s : State} {m : MethodId} {meth : Method} {c : Code} (h1 : s.methodNamed? y = some m) (h2 : s.vm.method? m = some meth) (h3 : meth.code = some c) (h4 : c.code = bytes)
    (h5 : (c.maxLocals == mx && c.exceptionTable.isEmpty && decide (c.maxStack ≤ mostOperands) && decide (meth.sig.returnType = rt) && !meth.locks && decide (parseMethodDescriptor y.desc = some meth.sig)) = true) : (Jvm.Cond.code y bytes mx rt).before a s = true := by
  simp only [Bool.and_eq_true, beq_iff_eq, Bool.not_eq_true', decide_eq_true_eq] at h5
  obtain ⟨⟨⟨⟨⟨g1, g2⟩, g3⟩, g4⟩, g5⟩, g6⟩ := h5
  simp [Cond.before, Cond.holds, Cond.value, h1, h2, h3, h4, g1, g2, g3, g4, g5, g6]
def isCode : Jvm.Cond → Bool
  | .code _ _ _ _ => true
  | _ => false
theorem all_split {L : List Jvm.Cond} {P : Jvm.Cond → Bool} (h1 : L.all (fun c => isCode c || P c) = true) (h2 : ∀ c ∈ L.filter isCode, P c = true) : L.all P = true := by
  refine List.all_eq_true.mpr fun c hc => ?_
  have h := List.all_eq_true.mp h1 c hc
  rcases Bool.eq_false_or_eq_true (isCode c) with hi | hi
  · exact h2 c (List.mem_filter.mpr ⟨hc, hi⟩)
  · simpa [hi] using h
set_option maxRecDepth 65536 in
theorem w_c0 : (Jvm.Cond.code x code maxLocals ret).before args0 about1 = true := code_word (m := ⟨1, 1⟩) (meth := k1m1) (c := k1c1) (by decide +kernel) rfl rfl rfl (by decide +kernel)
set_option maxRecDepth 65536 in
theorem w_c1 : (Jvm.Cond.code ({ cls := "com/example/structlane/structlane/header/SourceTextLineOfPinLaw", name := "pick", desc := "(II)B" } : Jvm.MethodName) method_3_code (2 : Nat) (Option.some Jvm.ClassFile.FieldType.byte)).before args0 about1 = true := code_word (m := ⟨1, 2⟩) (meth := k1m2) (c := k1c2) (by decide +kernel) rfl rfl rfl (by decide +kernel)
set_option maxRecDepth 65536 in
theorem w_c2 : (Jvm.Cond.code ({ cls := "com/example/structlane/structlane/header/SourceText", name := "<init>", desc := "([B)V" } : Jvm.MethodName) prog_190_method_1_code (2 : Nat) (Option.none : Option Jvm.ClassFile.FieldType)).before args0 about1 = true := code_word (m := ⟨2, 0⟩) (meth := k2m0) (c := k2c0) (by decide +kernel) rfl rfl rfl (by decide +kernel)
set_option maxRecDepth 65536 in
theorem w_c3 : (Jvm.Cond.code ({ cls := "com/example/structlane/structlane/header/SourceText", name := "<init>", desc := "([BLjava/lang/String;I)V" } : Jvm.MethodName) prog_190_method_4_code (5 : Nat) (Option.none : Option Jvm.ClassFile.FieldType)).before args0 about1 = true := code_word (m := ⟨2, 1⟩) (meth := k2m1) (c := k2c1) (by decide +kernel) rfl rfl rfl (by decide +kernel)
set_option maxRecDepth 65536 in
theorem w_c4 : (Jvm.Cond.code ({ cls := "java/lang/Object", name := "<init>", desc := "()V" } : Jvm.MethodName) object_method_1_code (1 : Nat) (Option.none : Option Jvm.ClassFile.FieldType)).before args0 about1 = true := code_word (m := ⟨0, 0⟩) (meth := k0m0) (c := k0c0) (by decide +kernel) rfl rfl rfl (by decide +kernel)
set_option maxRecDepth 65536 in
theorem w_c5 : (Jvm.Cond.code ({ cls := "com/example/structlane/structlane/header/SourceText$Joins", name := "<init>", desc := "([B)V" } : Jvm.MethodName) prog_191_method_1_code (6 : Nat) (Option.none : Option Jvm.ClassFile.FieldType)).before args0 about1 = true := code_word (m := ⟨3, 0⟩) (meth := k3m0) (c := k3c0) (by decide +kernel) rfl rfl rfl (by decide +kernel)
set_option maxRecDepth 65536 in
theorem w_c6 : (Jvm.Cond.code ({ cls := "com/example/structlane/structlane/header/SourceText$Joins", name := "applied", desc := "([B)[B" } : Jvm.MethodName) prog_191_method_2_code (7 : Nat) (Option.some (Jvm.ClassFile.FieldType.array Jvm.ClassFile.FieldType.byte))).before args0 about1 = true := code_word (m := ⟨3, 1⟩) (meth := k3m1) (c := k3c1) (by decide +kernel) rfl rfl rfl (by decide +kernel)
set_option maxRecDepth 65536 in
theorem w_c7 : (Jvm.Cond.code ({ cls := "com/example/structlane/structlane/header/SourceText", name := "lineOf", desc := "(I)I" } : Jvm.MethodName) prog_190_method_13_code (8 : Nat) (Option.some Jvm.ClassFile.FieldType.int)).before args0 about1 = true := code_word (m := ⟨2, 2⟩) (meth := k2m2) (c := k2c2) (by decide +kernel) rfl rfl rfl (by decide +kernel)
set_option maxRecDepth 65536 in
theorem w_c8 : (Jvm.Cond.code ({ cls := "com/example/structlane/structlane/header/SourceTextLineOfPinLaw", name := "ref", desc := "([BI)I" } : Jvm.MethodName) method_5_code (2 : Nat) (Option.some Jvm.ClassFile.FieldType.int)).before args0 about1 = true := code_word (m := ⟨1, 4⟩) (meth := k1m4) (c := k1c4) (by decide +kernel) rfl rfl rfl (by decide +kernel)
set_option maxRecDepth 65536 in
theorem w_c9 : (Jvm.Cond.code ({ cls := "com/example/structlane/structlane/header/SourceTextLineOfPinLaw", name := "nl", desc := "([BII)I" } : Jvm.MethodName) method_4_code (3 : Nat) (Option.some Jvm.ClassFile.FieldType.int)).before args0 about1 = true := code_word (m := ⟨1, 3⟩) (meth := k1m3) (c := k1c3) (by decide +kernel) rfl rfl rfl (by decide +kernel)
set_option maxRecDepth 65536 in
theorem w_c10 : (Jvm.Cond.code ({ cls := "com/example/structlane/structlane/header/SourceText$Joins", name := "startLine", desc := "(I)V" } : Jvm.MethodName) prog_191_method_5_code (2 : Nat) (Option.none : Option Jvm.ClassFile.FieldType)).before args0 about1 = true := code_word (m := ⟨3, 2⟩) (meth := k3m2) (c := k3c2) (by decide +kernel) rfl rfl rfl (by decide +kernel)
def codes1 : List Jvm.Cond := [Jvm.Cond.code x code maxLocals ret, Jvm.Cond.code ({ cls := "com/example/structlane/structlane/header/SourceTextLineOfPinLaw", name := "pick", desc := "(II)B" } : Jvm.MethodName) method_3_code (2 : Nat) (Option.some Jvm.ClassFile.FieldType.byte), Jvm.Cond.code ({ cls := "com/example/structlane/structlane/header/SourceText", name := "<init>", desc := "([B)V" } : Jvm.MethodName) prog_190_method_1_code (2 : Nat) (Option.none : Option Jvm.ClassFile.FieldType), Jvm.Cond.code ({ cls := "com/example/structlane/structlane/header/SourceText", name := "<init>", desc := "([BLjava/lang/String;I)V" } : Jvm.MethodName) prog_190_method_4_code (5 : Nat) (Option.none : Option Jvm.ClassFile.FieldType), Jvm.Cond.code ({ cls := "java/lang/Object", name := "<init>", desc := "()V" } : Jvm.MethodName) object_method_1_code (1 : Nat) (Option.none : Option Jvm.ClassFile.FieldType), Jvm.Cond.code ({ cls := "com/example/structlane/structlane/header/SourceText$Joins", name := "<init>", desc := "([B)V" } : Jvm.MethodName) prog_191_method_1_code (6 : Nat) (Option.none : Option Jvm.ClassFile.FieldType), Jvm.Cond.code ({ cls := "com/example/structlane/structlane/header/SourceText$Joins", name := "applied", desc := "([B)[B" } : Jvm.MethodName) prog_191_method_2_code (7 : Nat) (Option.some (Jvm.ClassFile.FieldType.array Jvm.ClassFile.FieldType.byte)), Jvm.Cond.code ({ cls := "com/example/structlane/structlane/header/SourceText", name := "lineOf", desc := "(I)I" } : Jvm.MethodName) prog_190_method_13_code (8 : Nat) (Option.some Jvm.ClassFile.FieldType.int), Jvm.Cond.code ({ cls := "com/example/structlane/structlane/header/SourceTextLineOfPinLaw", name := "ref", desc := "([BI)I" } : Jvm.MethodName) method_5_code (2 : Nat) (Option.some Jvm.ClassFile.FieldType.int), Jvm.Cond.code ({ cls := "com/example/structlane/structlane/header/SourceTextLineOfPinLaw", name := "nl", desc := "([BII)I" } : Jvm.MethodName) method_4_code (3 : Nat) (Option.some Jvm.ClassFile.FieldType.int), Jvm.Cond.code ({ cls := "com/example/structlane/structlane/header/SourceText$Joins", name := "startLine", desc := "(I)V" } : Jvm.MethodName) prog_191_method_5_code (2 : Nat) (Option.none : Option Jvm.ClassFile.FieldType)]
set_option maxRecDepth 65536 in
theorem codes_eq : words1.filter isCode = codes1 := rfl
theorem w_codes : ∀ c ∈ words1.filter isCode, c.before args0 about1 = true := by
  rw [codes_eq]
  intro c hc
  simp only [codes1, List.mem_cons, List.not_mem_nil, or_false] at hc
  rcases hc with rfl | rfl | rfl | rfl | rfl | rfl | rfl | rfl | rfl | rfl | rfl
  · exact w_c0
  · exact w_c1
  · exact w_c2
  · exact w_c3
  · exact w_c4
  · exact w_c5
  · exact w_c6
  · exact w_c7
  · exact w_c8
  · exact w_c9
  · exact w_c10
set_option maxRecDepth 65536 in
theorem w_t1 : (words1.take 24).all (fun c => isCode c || c.before args0 about1) = true := by decide +kernel
set_option maxRecDepth 65536 in
theorem w_t2 : ((words1.drop 24).take 24).all (fun c => isCode c || c.before args0 about1) = true := by decide +kernel
set_option maxRecDepth 65536 in
theorem w_t3 : ((words1.drop 24).drop 24).all (fun c => isCode c || c.before args0 about1) = true := by decide +kernel
theorem w_tables : (allAtoms (Jvm.Cond.code x code maxLocals ret :: tables_1)).before args0 about1 = true := by
  rw [allAtoms_all]
  show words1.all (fun c => c.before args0 about1) = true
  refine all_split ?_ w_codes
  rw [← List.take_append_drop 24 words1, List.all_append, w_t1, ← List.take_append_drop 24 (words1.drop 24), List.all_append, w_t2, w_t3]
  rfl
set_option maxRecDepth 65536 in
theorem w_case : (Jvm.Cond.and given_1 narrow_1).before args0 about1 = true := by decide +kernel
theorem w_applies : (headSpec (Jvm.Cond.code x code maxLocals ret :: tables_1) room_1).applies x e0.platform about1 = true :=
  (Spec.applies_iff w_frames).mpr ⟨w_running, w_runnable, w_alone, w_named, w_hears, w_ripe, w_room, w_tables⟩
theorem atStart : AtStart classFile x code maxLocals ret World_1 tables_1 room_1 Calls_1 rest_1 Pre_1 launch0 p0 e0 about1 theMethod args0 below0 :=
  ⟨lists_1, trivial, launch0.admits_env _ _ _, launch0.least_env, fairChoices_fair.cas, fairChoices_fair.clock, w_frames, w_args, w_heap, w_applies, trivial, trivial, w_case⟩
end start1
theorem witness_1 : WitnessClaimed_1 := ⟨start1.p0, start1.e0, start1.about1, start1.theMethod, start1.args0, start1.below0, start1.atStart⟩
end Jvm.Pilot.@@N@@
