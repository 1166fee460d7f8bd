import JvmDerived
import JvmDerived.Pilot.@@N@@Statement
import JvmDerived.Pilot.@@N@@Code
set_option linter.unusedVariables false
set_option linter.unusedSimpArgs false
namespace Jvm.RoadKit
open Sem ClassFile Op Lib Jvm.Stand Jvm.Free Jvm.LawKit
section New
variable {p : Program} {l : Launch} {e : Env} {R : Room} {s : State} {m : MethodId} {args : Array Value} {below : List Frame} {meth : Method} {c : Code} {T : State} {locs : List Loc} {cells slots : Nat}
theorem retI (X : Stand p l e R s m args below meth c T locs cells slots) (hx : p.tables.exec = Jvm.exec) {pc : Nat} {Ls : Array Slot} {z : Int32} {rest : List Value} (hret : meth.sig.returnType = some .int) (hd : decode c.code pc = .ok (.ireturn, 1)) {fs : List Frame}
    (hl : ∀ (f : JFrame) (acts : List Action), f.method = m → f.locked = none → f.entered = [] → (doReturn e (T.setTop f) acts (some (.int z))).1 = T.setFrames fs) : Steps p.tables e below (T.setTop (mkF m pc Ls (.int z :: rest))) (T.setFrames fs) := by
  have hm' : T.vm.method? m = some meth := X.method'
  have hn : narrow .int (.int z) = .int z := rfl
  show Steps p.tables e below (T.setTop { method := m, pc := pc, locals := Ls, stack := _ :: rest, locked := none }) _
  jvm_step X.here [X.here.top, hx, hd, hm', hret, hn]
  first | (intro acts; rw [hl _ acts rfl rfl rfl]) | rw [hl _ _ rfl rfl rfl]
  exact Steps.refl _
end New
end Jvm.RoadKit
namespace Jvm.Pilot.@@N@@
namespace Own
open Jvm Jvm.ClassFile Sem Op Lib Jvm.Free Jvm.Stand Jvm.LawKit Jvm.RoadKit Bundle
/-- from this frame on the method comes to an end of which P holds -/
def Run (tb : Tables) (e : Env) (below : List Frame) (P : State → Prop) (T : State) (g : JFrame) : Prop := ∃ t, Steps tb e below (T.setTop g) t ∧ P t
theorem Run.of {tb : Tables} {e : Env} {below : List Frame} {P : State → Prop} {T T' : State} {g g' : JFrame} (st : ∀ target, Steps tb e below (T'.setTop g') target → Steps tb e below (T.setTop g) target) (k : Run tb e below P T' g') : Run tb e below P T g := by
  obtain ⟨t, h, hp⟩ := k; exact ⟨t, st _ h, hp⟩
theorem Run.tr {tb : Tables} {e : Env} {below : List Frame} {P : State → Prop} {T T' : State} {g g' : JFrame} (st : Steps tb e below (T.setTop g) (T'.setTop g')) (k : Run tb e below P T' g') : Run tb e below P T g := by
  obtain ⟨t, h, hp⟩ := k; exact ⟨t, st.trans h, hp⟩
/-- what is kept up while the heap grows and safe cells are written -/
def Cl (Z : State) (Inv : Heap → Prop) (Sf : Heap → Addr → Prop) : Prop :=
  (∀ (h h' : Heap) (ws : List Addr), Keep h h' ws → (∀ x ∈ ws, Sf h x) → Inv h → Inv h' ∧ ∀ x, Sf h x → Sf h' x) ∧
  (∀ (h : Heap) (x : Addr), h.size ≤ x → Sf h x) ∧
  (∀ (h : Heap) (x : Addr) (C : String), Exa Z h x C → C ≠ "java/lang/String" → C ≠ "[B" → Sf h x) ∧
  (∀ (h : Heap) (x : Addr) (c : Cell) (ty : FieldType), Arr Z h x c ty → ty ≠ .byte → Sf h x)
/-- where the walk of a body stands -/
def WP (p : Program) (l : Launch) (e : Env) (R : Room) (s : State) (m : MethodId) (args : Array Value) (below : List Frame) (meth : Method) (c : Code) (Z : State) (own mname : String) (bytes : ByteArray) (maxL : Nat) (ret : Option FieldType) (n0 : Nat) (Inv : Heap → Prop) (Sf : Heap → Addr → Prop) (T : State) (h : Heap) (locs : List Loc) (cells slots : Nat) : Prop :=
  Stand p l e R s m args below meth c T locs cells slots ∧ T.heap = h ∧ Z.Warmed39 s.vm ∧ s.vm.findClass own = some m.cls ∧ Fr n0 locs ∧ Old Z n0 h ∧ Inv h ∧ (p.tables.exec = Jvm.exec ∧ c.code = bytes ∧ c.maxLocals = maxL ∧ meth.sig.returnType = ret ∧ meth.locks = false ∧ meth.name = mname) ∧ Cl Z Inv Sf
theorem ext_keep {h h' : Heap} (E : Ext h h') : Keep h h' [] := (Keep.refl h []).ext E
theorem keep_id (h : Heap) : Keep h h [] := Keep.refl h []
theorem own_n {a b : Nat} (h : a < b) : a < b := h
theorem own_ne {a b : Nat} (h : a < b ∨ b < a) : a ≠ b := by omega
theorem own_ni {a b : Nat} (h : a ≠ b) : a < b ∨ b < a := by omega
theorem fr1 {k : Nat} {a : Addr} {sl : Nat} (q : k ≤ a) : Fr k [(⟨a, sl⟩ : Loc)] := fun y hy => by cases List.mem_singleton.mp hy; exact q
section Kit
variable {p : Program} {l : Launch} {e : Env} {R : Room} {s : State} {m : MethodId} {args : Array Value} {below : List Frame} {meth : Method} {c : Code} {Z : State} {own mname : String} {bytes : ByteArray} {maxL : Nat} {ret : Option FieldType} {n0 : Nat} {Inv : Heap → Prop} {Sf : Heap → Addr → Prop} {T : State} {h : Heap} {locs : List Loc} {cells slots : Nat} {a0 : Array Value} {P : State → Prop} {pc pc' : Nat} {Ls Ls' : Array Slot} {st : List Value}
theorem WP.hx (X : WP p l e R s m args below meth c Z own mname bytes maxL ret n0 Inv Sf T h locs cells slots) : p.tables.exec = Jvm.exec := X.2.2.2.2.2.2.2.1.1
theorem WP.hby (X : WP p l e R s m args below meth c Z own mname bytes maxL ret n0 Inv Sf T h locs cells slots) : c.code = bytes := X.2.2.2.2.2.2.2.1.2.1
theorem WP.hml (X : WP p l e R s m args below meth c Z own mname bytes maxL ret n0 Inv Sf T h locs cells slots) : c.maxLocals = maxL := X.2.2.2.2.2.2.2.1.2.2.1
theorem WP.hret (X : WP p l e R s m args below meth c Z own mname bytes maxL ret n0 Inv Sf T h locs cells slots) : meth.sig.returnType = ret := X.2.2.2.2.2.2.2.1.2.2.2.1
theorem WP.hlk (X : WP p l e R s m args below meth c Z own mname bytes maxL ret n0 Inv Sf T h locs cells slots) : meth.locks = false := X.2.2.2.2.2.2.2.1.2.2.2.2.1
theorem WP.hnm (X : WP p l e R s m args below meth c Z own mname bytes maxL ret n0 Inv Sf T h locs cells slots) : meth.name = mname := X.2.2.2.2.2.2.2.1.2.2.2.2.2
theorem WP.cl (X : WP p l e R s m args below meth c Z own mname bytes maxL ret n0 Inv Sf T h locs cells slots) : Cl Z Inv Sf := X.2.2.2.2.2.2.2.2
theorem WP.inv (X : WP p l e R s m args below meth c Z own mname bytes maxL ret n0 Inv Sf T h locs cells slots) : Inv h := X.2.2.2.2.2.2.1
theorem WP.old (X : WP p l e R s m args below meth c Z own mname bytes maxL ret n0 Inv Sf T h locs cells slots) : Old Z n0 h := X.2.2.2.2.2.1
theorem WP.n0le (X : WP p l e R s m args below meth c Z own mname bytes maxL ret n0 Inv Sf T h locs cells slots) : n0 ≤ h.size := X.old.1 ▸ X.old.2.1
theorem WP.fr (X : WP p l e R s m args below meth c Z own mname bytes maxL ret n0 Inv Sf T h locs cells slots) : Fr n0 locs := X.2.2.2.2.1
theorem WP.hown (X : WP p l e R s m args below meth c Z own mname bytes maxL ret n0 Inv Sf T h locs cells slots) : s.vm.findClass own = some m.cls := X.2.2.2.1
theorem WP.hZ (X : WP p l e R s m args below meth c Z own mname bytes maxL ret n0 Inv Sf T h locs cells slots) : Z.Warmed39 s.vm := X.2.2.1
theorem WP.eT (X : WP p l e R s m args below meth c Z own mname bytes maxL ret n0 Inv Sf T h locs cells slots) : T.heap = h := X.2.1
theorem WP.mv (X : WP p l e R s m args below meth c Z own mname bytes maxL ret n0 Inv Sf T h locs cells slots) {T' : State} {h' : Heap} {locs' : List Loc} {cells' slots' : Nat} (X' : Stand p l e R s m args below meth c T' locs' cells' slots') (e' : T'.heap = h') {ws : List Addr} (K : Keep h h' ws) (hs : ∀ x ∈ ws, Sf h x ∧ n0 ≤ x) (N : Fr n0 locs') : WP p l e R s m args below meth c Z own mname bytes maxL ret n0 Inv Sf T' h' locs' cells' slots' :=
  ⟨X', e', X.hZ, X.hown, N, X.old.keep K (fun x q => (hs x q).2), (X.cl.1 h h' ws K (fun x q => (hs x q).1) X.inv).1, X.2.2.2.2.2.2.2.1, X.cl⟩
theorem WP.same (X : WP p l e R s m args below meth c Z own mname bytes maxL ret n0 Inv Sf T h locs cells slots) {T' : State} (X' : Stand p l e R s m args below meth c T' locs cells slots) (e' : T'.heap = h) : WP p l e R s m args below meth c Z own mname bytes maxL ret n0 Inv Sf T' h locs cells slots := X.mv X' e' (keep_id h) (fun _ q => nomatch q) X.fr
theorem WP.up (X : WP p l e R s m args below meth c Z own mname bytes maxL ret n0 Inv Sf T h locs cells slots) {cells' slots' : Nat} (h1 : cells ≤ cells') (h2 : slots ≤ slots') : WP p l e R s m args below meth c Z own mname bytes maxL ret n0 Inv Sf T h locs cells' slots' :=
  ⟨⟨X.1.admits, X.1.cas, X.1.clock, X.1.frames, X.1.room, X.1.hears, X.1.method, X.1.code, X.1.here, X.1.tail, X.1.warmed, X.1.limits, X.1.bytes, X.1.same.mono h1 h2⟩, X.2⟩
/-- a safe cell stays safe -/
theorem WP.sf (X : WP p l e R s m args below meth c Z own mname bytes maxL ret n0 Inv Sf T h locs cells slots) {h' : Heap} {ws : List Addr} {x : Addr} (K : Keep h h' ws) (hs : ∀ x ∈ ws, Sf h x ∧ n0 ≤ x) (q : Sf h x) : Sf h' x := (X.cl.1 h h' ws K (fun x q => (hs x q).1) X.inv).2 x q
theorem WP.sfN (X : WP p l e R s m args below meth c Z own mname bytes maxL ret n0 Inv Sf T h locs cells slots) {x : Addr} (q : h.size ≤ x) : Sf h x := X.cl.2.1 h x q
theorem WP.sfE (X : WP p l e R s m args below meth c Z own mname bytes maxL ret n0 Inv Sf T h locs cells slots) {x : Addr} {C : String} (E : Exa Z h x C) (h1 : C ≠ "java/lang/String" := by decide) (h2 : C ≠ "[B" := by decide) : Sf h x := X.cl.2.2.1 h x C E h1 h2
theorem WP.sfA (X : WP p l e R s m args below meth c Z own mname bytes maxL ret n0 Inv Sf T h locs cells slots) {x : Addr} {k : ClassId} {ty : FieldType} {z : Int32} {vs : List Value} {d : Value} (A : Arv Z h x k ty z vs d) (h1 : ty ≠ .byte := by decide) : Sf h x := by
  obtain ⟨c, A, -⟩ := A; exact X.cl.2.2.2 h x c ty A h1

theorem k_aloadN (X : WP p l e R s m args below meth c Z own mname bytes maxL ret n0 Inv Sf T h locs cells slots) {k : Fin 4} {v : Value} (hd : decode bytes pc = .ok (.aload_n k, 1)) (hl : Ls[k.val]? = some (.val v)) (hv : v.isRef = true) (hp : pc + 1 = pc') (q : Run p.tables e below P T (mkF m pc' Ls (v :: st))) : Run p.tables e below P T (mkF m pc Ls (st)) := by
  subst hp; exact Run.of (fun _ k => XS.aloadN X.1.here X.hx rfl (hb X.hby hd) hl hv k) q
theorem k_aload (X : WP p l e R s m args below meth c Z own mname bytes maxL ret n0 Inv Sf T h locs cells slots) {k : Nat} {v : Value} (hd : decode bytes pc = .ok (.aload k, 2)) (hl : Ls[k]? = some (.val v)) (hv : v.isRef = true) (hp : pc + 2 = pc') (q : Run p.tables e below P T (mkF m pc' Ls (v :: st))) : Run p.tables e below P T (mkF m pc Ls (st)) := by
  subst hp; exact Run.of (fun _ k => XS.aload X.1.here X.hx rfl (hb X.hby hd) hl hv k) q
theorem k_iloadN (X : WP p l e R s m args below meth c Z own mname bytes maxL ret n0 Inv Sf T h locs cells slots) {k : Fin 4} {v : Int32} (hd : decode bytes pc = .ok (.iload_n k, 1)) (hl : Ls[k.val]? = some (.val (.int v))) (hp : pc + 1 = pc') (q : Run p.tables e below P T (mkF m pc' Ls (.int v :: st))) : Run p.tables e below P T (mkF m pc Ls (st)) := by
  subst hp; exact Run.of (fun _ k => XS.iloadN X.1.here X.hx rfl (hb X.hby hd) hl k) q
theorem k_iload (X : WP p l e R s m args below meth c Z own mname bytes maxL ret n0 Inv Sf T h locs cells slots) {k : Nat} {v : Int32} (hd : decode bytes pc = .ok (.iload k, 2)) (hl : Ls[k]? = some (.val (.int v))) (hp : pc + 2 = pc') (q : Run p.tables e below P T (mkF m pc' Ls (.int v :: st))) : Run p.tables e below P T (mkF m pc Ls (st)) := by
  subst hp; exact Run.of (fun _ k => XS.iload X.1.here X.hx rfl (hb X.hby hd) hl k) q
theorem k_astoreN (X : WP p l e R s m args below meth c Z own mname bytes maxL ret n0 Inv Sf T h locs cells slots) {k : Fin 4} {v : Value} (hd : decode bytes pc = .ok (.astore_n k, 1)) (hv : v.isRef = true) (hl : storeLocals Ls k.val v = some Ls') (hp : pc + 1 = pc') (q : Run p.tables e below P T (mkF m pc' Ls' (st))) : Run p.tables e below P T (mkF m pc Ls (v :: st)) := by
  subst hp; exact Run.of (fun _ k => XS.astoreN X.1.here X.hx rfl (hb X.hby hd) rfl hv hl k) q
theorem k_astore (X : WP p l e R s m args below meth c Z own mname bytes maxL ret n0 Inv Sf T h locs cells slots) {k : Nat} {v : Value} (hd : decode bytes pc = .ok (.astore k, 2)) (hv : v.isRef = true) (hl : storeLocals Ls k v = some Ls') (hp : pc + 2 = pc') (q : Run p.tables e below P T (mkF m pc' Ls' (st))) : Run p.tables e below P T (mkF m pc Ls (v :: st)) := by
  subst hp; exact Run.of (fun _ k => XS.astore X.1.here X.hx rfl (hb X.hby hd) rfl hv hl k) q
theorem k_istoreN (X : WP p l e R s m args below meth c Z own mname bytes maxL ret n0 Inv Sf T h locs cells slots) {k : Fin 4} {v : Int32} (hd : decode bytes pc = .ok (.istore_n k, 1)) (hl : storeLocals Ls k.val (.int v) = some Ls') (hp : pc + 1 = pc') (q : Run p.tables e below P T (mkF m pc' Ls' (st))) : Run p.tables e below P T (mkF m pc Ls (.int v :: st)) := by
  subst hp; exact Run.of (fun _ k => XS.istoreN X.1.here X.hx rfl (hb X.hby hd) rfl hl k) q
theorem k_istore (X : WP p l e R s m args below meth c Z own mname bytes maxL ret n0 Inv Sf T h locs cells slots) {k : Nat} {v : Int32} (hd : decode bytes pc = .ok (.istore k, 2)) (hl : storeLocals Ls k (.int v) = some Ls') (hp : pc + 2 = pc') (q : Run p.tables e below P T (mkF m pc' Ls' (st))) : Run p.tables e below P T (mkF m pc Ls (.int v :: st)) := by
  subst hp; exact Run.of (fun _ k => XS.istore X.1.here X.hx rfl (hb X.hby hd) rfl hl k) q
theorem k_iconst (X : WP p l e R s m args below meth c Z own mname bytes maxL ret n0 Inv Sf T h locs cells slots) {k : Int} {w : Int32} (hd : decode bytes pc = .ok (.iconst k, 1)) (hv : Int32.ofInt k = w) (hp : pc + 1 = pc') (q : Run p.tables e below P T (mkF m pc' Ls (.int w :: st))) : Run p.tables e below P T (mkF m pc Ls (st)) := by
  subst hp; subst hv; exact Run.of (fun _ k => XS.iconst X.1.here X.hx rfl (hb X.hby hd)  k) q
theorem k_bipush (X : WP p l e R s m args below meth c Z own mname bytes maxL ret n0 Inv Sf T h locs cells slots) {k : Int} {w : Int32} (hd : decode bytes pc = .ok (.bipush k, 2)) (hv : (Int8.ofInt k).toInt32 = w) (hp : pc + 2 = pc') (q : Run p.tables e below P T (mkF m pc' Ls (.int w :: st))) : Run p.tables e below P T (mkF m pc Ls (st)) := by
  subst hp; subst hv; exact Run.of (fun _ k => XS.bipush X.1.here X.hx rfl (hb X.hby hd)  k) q
theorem k_sipush (X : WP p l e R s m args below meth c Z own mname bytes maxL ret n0 Inv Sf T h locs cells slots) {k : Int} {w : Int32} (hd : decode bytes pc = .ok (.sipush k, 3)) (hv : (Int16.ofInt k).toInt32 = w) (hp : pc + 3 = pc') (q : Run p.tables e below P T (mkF m pc' Ls (.int w :: st))) : Run p.tables e below P T (mkF m pc Ls (st)) := by
  subst hp; subst hv; exact Run.of (fun _ k => XS.sipush X.1.here X.hx rfl (hb X.hby hd)  k) q
theorem k_aconstNull (X : WP p l e R s m args below meth c Z own mname bytes maxL ret n0 Inv Sf T h locs cells slots)  (hd : decode bytes pc = .ok (.aconst_null, 1))  (hp : pc + 1 = pc') (q : Run p.tables e below P T (mkF m pc' Ls (.null :: st))) : Run p.tables e below P T (mkF m pc Ls (st)) := by
  subst hp; exact Run.of (fun _ k => XS.aconstNull X.1.here X.hx rfl (hb X.hby hd)  k) q
theorem k_iadd (X : WP p l e R s m args below meth c Z own mname bytes maxL ret n0 Inv Sf T h locs cells slots) {x y w : Int32} (hd : decode bytes pc = .ok (.iadd, 1)) (hv : x + y = w) (hp : pc + 1 = pc') (q : Run p.tables e below P T (mkF m pc' Ls (.int w :: st))) : Run p.tables e below P T (mkF m pc Ls (.int y :: .int x :: st)) := by
  subst hp; subst hv; exact Run.of (fun _ k => XS.iadd X.1.here X.hx rfl (hb X.hby hd) rfl k) q
theorem k_isub (X : WP p l e R s m args below meth c Z own mname bytes maxL ret n0 Inv Sf T h locs cells slots) {x y w : Int32} (hd : decode bytes pc = .ok (.isub, 1)) (hv : x - y = w) (hp : pc + 1 = pc') (q : Run p.tables e below P T (mkF m pc' Ls (.int w :: st))) : Run p.tables e below P T (mkF m pc Ls (.int y :: .int x :: st)) := by
  subst hp; subst hv; exact Run.of (fun _ k => XS.isub X.1.here X.hx rfl (hb X.hby hd) rfl k) q
theorem k_imul (X : WP p l e R s m args below meth c Z own mname bytes maxL ret n0 Inv Sf T h locs cells slots) {x y w : Int32} (hd : decode bytes pc = .ok (.imul, 1)) (hv : x * y = w) (hp : pc + 1 = pc') (q : Run p.tables e below P T (mkF m pc' Ls (.int w :: st))) : Run p.tables e below P T (mkF m pc Ls (.int y :: .int x :: st)) := by
  subst hp; subst hv; exact Run.of (fun _ k => XS.imul X.1.here X.hx rfl (hb X.hby hd) rfl k) q
theorem k_iand (X : WP p l e R s m args below meth c Z own mname bytes maxL ret n0 Inv Sf T h locs cells slots) {x y w : Int32} (hd : decode bytes pc = .ok (.iand, 1)) (hv : x &&& y = w) (hp : pc + 1 = pc') (q : Run p.tables e below P T (mkF m pc' Ls (.int w :: st))) : Run p.tables e below P T (mkF m pc Ls (.int y :: .int x :: st)) := by
  subst hp; subst hv; exact Run.of (fun _ k => XS.iand X.1.here X.hx rfl (hb X.hby hd) rfl k) q
theorem k_ior (X : WP p l e R s m args below meth c Z own mname bytes maxL ret n0 Inv Sf T h locs cells slots) {x y w : Int32} (hd : decode bytes pc = .ok (.ior, 1)) (hv : x ||| y = w) (hp : pc + 1 = pc') (q : Run p.tables e below P T (mkF m pc' Ls (.int w :: st))) : Run p.tables e below P T (mkF m pc Ls (.int y :: .int x :: st)) := by
  subst hp; subst hv; exact Run.of (fun _ k => XS.ior X.1.here X.hx rfl (hb X.hby hd) rfl k) q
theorem k_ixor (X : WP p l e R s m args below meth c Z own mname bytes maxL ret n0 Inv Sf T h locs cells slots) {x y w : Int32} (hd : decode bytes pc = .ok (.ixor, 1)) (hv : x ^^^ y = w) (hp : pc + 1 = pc') (q : Run p.tables e below P T (mkF m pc' Ls (.int w :: st))) : Run p.tables e below P T (mkF m pc Ls (.int y :: .int x :: st)) := by
  subst hp; subst hv; exact Run.of (fun _ k => XS.ixor X.1.here X.hx rfl (hb X.hby hd) rfl k) q
theorem k_ishl (X : WP p l e R s m args below meth c Z own mname bytes maxL ret n0 Inv Sf T h locs cells slots) {x y w : Int32} (hd : decode bytes pc = .ok (.ishl, 1)) (hv : (x <<< (y &&& 31)) = w) (hp : pc + 1 = pc') (q : Run p.tables e below P T (mkF m pc' Ls (.int w :: st))) : Run p.tables e below P T (mkF m pc Ls (.int y :: .int x :: st)) := by
  subst hp; subst hv; exact Run.of (fun _ k => XS.ishl X.1.here X.hx rfl (hb X.hby hd) rfl k) q
theorem k_ishr (X : WP p l e R s m args below meth c Z own mname bytes maxL ret n0 Inv Sf T h locs cells slots) {x y w : Int32} (hd : decode bytes pc = .ok (.ishr, 1)) (hv : (x >>> (y &&& 31)) = w) (hp : pc + 1 = pc') (q : Run p.tables e below P T (mkF m pc' Ls (.int w :: st))) : Run p.tables e below P T (mkF m pc Ls (.int y :: .int x :: st)) := by
  subst hp; subst hv; exact Run.of (fun _ k => XS.ishr X.1.here X.hx rfl (hb X.hby hd) rfl k) q
theorem k_iushr (X : WP p l e R s m args below meth c Z own mname bytes maxL ret n0 Inv Sf T h locs cells slots) {x y w : Int32} (hd : decode bytes pc = .ok (.iushr, 1)) (hv : ((x.toUInt32 >>> (y &&& 31).toUInt32).toInt32) = w) (hp : pc + 1 = pc') (q : Run p.tables e below P T (mkF m pc' Ls (.int w :: st))) : Run p.tables e below P T (mkF m pc Ls (.int y :: .int x :: st)) := by
  subst hp; subst hv; exact Run.of (fun _ k => XS.iushr X.1.here X.hx rfl (hb X.hby hd) rfl k) q
theorem k_irem (X : WP p l e R s m args below meth c Z own mname bytes maxL ret n0 Inv Sf T h locs cells slots) {x y w : Int32} (hd : decode bytes pc = .ok (.irem, 1)) (hy : y ≠ 0) (hv : x - (x / y) * y = w) (hp : pc + 1 = pc') (q : Run p.tables e below P T (mkF m pc' Ls (.int w :: st))) : Run p.tables e below P T (mkF m pc Ls (.int y :: .int x :: st)) := by
  subst hp; subst hv; exact Run.of (fun _ k => XS.irem X.1.here X.hx rfl (hb X.hby hd) rfl hy k) q
theorem k_idiv (X : WP p l e R s m args below meth c Z own mname bytes maxL ret n0 Inv Sf T h locs cells slots) {x y w : Int32} (hd : decode bytes pc = .ok (.idiv, 1)) (hy : y ≠ 0) (hv : x / y = w) (hp : pc + 1 = pc') (q : Run p.tables e below P T (mkF m pc' Ls (.int w :: st))) : Run p.tables e below P T (mkF m pc Ls (.int y :: .int x :: st)) := by
  subst hp; subst hv; exact Run.of (fun _ k => XS.idiv X.1.here X.hx rfl (hb X.hby hd) rfl hy k) q
theorem k_ineg (X : WP p l e R s m args below meth c Z own mname bytes maxL ret n0 Inv Sf T h locs cells slots) {x w : Int32} (hd : decode bytes pc = .ok (.ineg, 1)) (hv : -x = w) (hp : pc + 1 = pc') (q : Run p.tables e below P T (mkF m pc' Ls (.int w :: st))) : Run p.tables e below P T (mkF m pc Ls (.int x :: st)) := by
  subst hp; subst hv; exact Run.of (fun _ k => XS.ineg X.1.here X.hx rfl (hb X.hby hd) rfl k) q
theorem k_i2c (X : WP p l e R s m args below meth c Z own mname bytes maxL ret n0 Inv Sf T h locs cells slots) {x w : Int32} (hd : decode bytes pc = .ok (.i2c, 1)) (hv : x.toUInt32.toUInt16.toUInt32.toInt32 = w) (hp : pc + 1 = pc') (q : Run p.tables e below P T (mkF m pc' Ls (.int w :: st))) : Run p.tables e below P T (mkF m pc Ls (.int x :: st)) := by
  subst hp; subst hv; exact Run.of (fun _ k => XS.i2c X.1.here X.hx rfl (hb X.hby hd) rfl k) q
theorem k_i2b (X : WP p l e R s m args below meth c Z own mname bytes maxL ret n0 Inv Sf T h locs cells slots) {x w : Int32} (hd : decode bytes pc = .ok (.i2b, 1)) (hv : x.toInt8.toInt32 = w) (hp : pc + 1 = pc') (q : Run p.tables e below P T (mkF m pc' Ls (.int w :: st))) : Run p.tables e below P T (mkF m pc Ls (.int x :: st)) := by
  subst hp; subst hv; exact Run.of (fun _ k => XS.i2b X.1.here X.hx rfl (hb X.hby hd) rfl k) q
theorem k_iinc (X : WP p l e R s m args below meth c Z own mname bytes maxL ret n0 Inv Sf T h locs cells slots) {k : Nat} {cst : Int} {x w : Int32} (hd : decode bytes pc = .ok (.iinc k cst, 3)) (hl : Ls[k]? = some (.val (.int x))) (hv : x + Int32.ofInt cst = w) (hl' : storeLocals Ls k (.int w) = some Ls') (hp : pc + 3 = pc') (q : Run p.tables e below P T (mkF m pc' Ls' (st))) : Run p.tables e below P T (mkF m pc Ls (st)) := by
  subst hp; subst hv; exact Run.of (fun _ k => XS.iinc X.1.here X.hx rfl (hb X.hby hd) hl hl' k) q
theorem k_dup (X : WP p l e R s m args below meth c Z own mname bytes maxL ret n0 Inv Sf T h locs cells slots) {v : Value} (hd : decode bytes pc = .ok (.dup, 1)) (hc : v.category = 1) (hp : pc + 1 = pc') (q : Run p.tables e below P T (mkF m pc' Ls (v :: v :: st))) : Run p.tables e below P T (mkF m pc Ls (v :: st)) := by
  subst hp; exact Run.of (fun _ k => XS.dup X.1.here X.hx rfl (hb X.hby hd) rfl hc k) q
theorem k_pop (X : WP p l e R s m args below meth c Z own mname bytes maxL ret n0 Inv Sf T h locs cells slots) {v : Value} (hd : decode bytes pc = .ok (.pop, 1)) (hc : v.category = 1) (hp : pc + 1 = pc') (q : Run p.tables e below P T (mkF m pc' Ls (st))) : Run p.tables e below P T (mkF m pc Ls (v :: st)) := by
  subst hp; exact Run.of (fun _ k => XS.pop X.1.here X.hx rfl (hb X.hby hd) rfl hc k) q
theorem k_goto (X : WP p l e R s m args below meth c Z own mname bytes maxL ret n0 Inv Sf T h locs cells slots) {o : Int} (hd : decode bytes pc = .ok (.goto o, 3))  (ho : 0 ≤ (pc : Int) + o) (hp : ((pc : Int) + o).toNat = pc') (q : Run p.tables e below P T (mkF m pc' Ls (st))) : Run p.tables e below P T (mkF m pc Ls (st)) := by
  exact Run.of (fun _ k => XS.goto X.1.here X.hx rfl (pc0 := pc) (pc' := pc') rfl (hb X.hby hd)  ho hp k) q
theorem k_ifYes (X : WP p l e R s m args below meth c Z own mname bytes maxL ret n0 Inv Sf T h locs cells slots) {cd : ClassFile.Cond} {o : Int} {x : Int32} (hd : decode bytes pc = .ok (.ifCond cd o, 3)) (hc : ifCond.holds cd x = true) (ho : 0 ≤ (pc : Int) + o) (hp : ((pc : Int) + o).toNat = pc') (q : Run p.tables e below P T (mkF m pc' Ls (st))) : Run p.tables e below P T (mkF m pc Ls (.int x :: st)) := by
  exact Run.of (fun _ k => XS.ifYes X.1.here X.hx rfl (pc0 := pc) (pc' := pc') rfl (hb X.hby hd) rfl hc ho hp k) q
theorem k_ifNo (X : WP p l e R s m args below meth c Z own mname bytes maxL ret n0 Inv Sf T h locs cells slots) {cd : ClassFile.Cond} {o : Int} {x : Int32} (hd : decode bytes pc = .ok (.ifCond cd o, 3)) (hc : ifCond.holds cd x = false) (hp : pc + 3 = pc') (q : Run p.tables e below P T (mkF m pc' Ls (st))) : Run p.tables e below P T (mkF m pc Ls (.int x :: st)) := by
  subst hp; exact Run.of (fun _ k => XS.ifNo X.1.here X.hx rfl (hb X.hby hd) rfl hc k) q
theorem k_icmpYes (X : WP p l e R s m args below meth c Z own mname bytes maxL ret n0 Inv Sf T h locs cells slots) {cd : ClassFile.Cond} {o : Int} {x y : Int32} (hd : decode bytes pc = .ok (.if_icmp cd o, 3)) (hc : if_icmp.holds cd x y = true) (ho : 0 ≤ (pc : Int) + o) (hp : ((pc : Int) + o).toNat = pc') (q : Run p.tables e below P T (mkF m pc' Ls (st))) : Run p.tables e below P T (mkF m pc Ls (.int y :: .int x :: st)) := by
  exact Run.of (fun _ k => XS.icmpYes X.1.here X.hx rfl (pc0 := pc) (pc' := pc') rfl (hb X.hby hd) rfl hc ho hp k) q
theorem k_icmpNo (X : WP p l e R s m args below meth c Z own mname bytes maxL ret n0 Inv Sf T h locs cells slots) {cd : ClassFile.Cond} {o : Int} {x y : Int32} (hd : decode bytes pc = .ok (.if_icmp cd o, 3)) (hc : if_icmp.holds cd x y = false) (hp : pc + 3 = pc') (q : Run p.tables e below P T (mkF m pc' Ls (st))) : Run p.tables e below P T (mkF m pc Ls (.int y :: .int x :: st)) := by
  subst hp; exact Run.of (fun _ k => XS.icmpNo X.1.here X.hx rfl (hb X.hby hd) rfl hc k) q
theorem k_ifnullYes (X : WP p l e R s m args below meth c Z own mname bytes maxL ret n0 Inv Sf T h locs cells slots) {o : Int} (hd : decode bytes pc = .ok (.ifnull o, 3))  (ho : 0 ≤ (pc : Int) + o) (hp : ((pc : Int) + o).toNat = pc') (q : Run p.tables e below P T (mkF m pc' Ls (st))) : Run p.tables e below P T (mkF m pc Ls (.null :: st)) := by
  exact Run.of (fun _ k => XS.ifnullYes X.1.here X.hx rfl (pc0 := pc) (pc' := pc') rfl (hb X.hby hd) rfl ho hp k) q
theorem k_ifnullNo (X : WP p l e R s m args below meth c Z own mname bytes maxL ret n0 Inv Sf T h locs cells slots) {o : Int} {a : Addr} (hd : decode bytes pc = .ok (.ifnull o, 3))  (hp : pc + 3 = pc') (q : Run p.tables e below P T (mkF m pc' Ls (st))) : Run p.tables e below P T (mkF m pc Ls (.ref a :: st)) := by
  subst hp; exact Run.of (fun _ k => XS.ifnullNo X.1.here X.hx rfl (hb X.hby hd) rfl k) q
theorem k_ifnonnullYes (X : WP p l e R s m args below meth c Z own mname bytes maxL ret n0 Inv Sf T h locs cells slots) {o : Int} {a : Addr} (hd : decode bytes pc = .ok (.ifnonnull o, 3))  (ho : 0 ≤ (pc : Int) + o) (hp : ((pc : Int) + o).toNat = pc') (q : Run p.tables e below P T (mkF m pc' Ls (st))) : Run p.tables e below P T (mkF m pc Ls (.ref a :: st)) := by
  exact Run.of (fun _ k => XS.ifnonnullYes X.1.here X.hx rfl (pc0 := pc) (pc' := pc') rfl (hb X.hby hd) rfl ho hp k) q
theorem k_ifnonnullNo (X : WP p l e R s m args below meth c Z own mname bytes maxL ret n0 Inv Sf T h locs cells slots) {o : Int} (hd : decode bytes pc = .ok (.ifnonnull o, 3))  (hp : pc + 3 = pc') (q : Run p.tables e below P T (mkF m pc' Ls (st))) : Run p.tables e below P T (mkF m pc Ls (.null :: st)) := by
  subst hp; exact Run.of (fun _ k => XS.ifnonnullNo X.1.here X.hx rfl (hb X.hby hd) rfl k) q
theorem k_acmp (X : WP p l e R s m args below meth c Z own mname bytes maxL ret n0 Inv Sf T h locs cells slots) {cd : ACond} {x y : Value} {o : Int} (same : Bool) (hd : decode bytes pc = .ok (.if_acmp cd o, 3)) (h1 : x.isRef = true) (h2 : y.isRef = true) (hq : decide (x = y) = same) (ho : 0 ≤ (pc : Int) + o) (hp : pc' = if acV cd same = true then ((pc : Int) + o).toNat else pc + 3) (q : Run p.tables e below P T (mkF m pc' Ls st)) : Run p.tables e below P T (mkF m pc Ls (y :: x :: st)) :=
  Run.of (fun _ k => Jvm.RoadKit.acmp (g := mkF m pc Ls (y :: x :: st)) X.1 X.hx rfl h1 h2 (pc0 := pc) (pc' := pc') (same := same) rfl (hb X.hby hd) rfl hq ho hp k) q
theorem k_getF (X : WP p l e R s m args below meth c Z own mname bytes maxL ret n0 Inv Sf T h locs cells slots) {R0 O n d host : String} {index : Nat} {a : Addr} {v : Value} (hd : decode bytes pc = .ok (.getfield index, 3)) (w : (Cond.fieldLink own index R0 n d).before a0 Z = true ∨ (Cond.fieldLinkNest own index R0 n d host).before a0 Z = true) (via : Via Z R0 O n d) (F : Fld Z h a O n d v) (hp : pc + 3 = pc')
    (q : ∀ T', WP p l e R s m args below meth c Z own mname bytes maxL ret n0 Inv Sf T' h locs cells slots → Run p.tables e below P T' (mkF m pc' Ls (v :: st))) : Run p.tables e below P T (mkF m pc Ls (.ref a :: st)) := by
  subst hp
  obtain ⟨T', X', e', k⟩ := Jvm.RoadKit.getF X.1 X.hx X.hZ X.hown w via X.eT F (g := mkF m pc Ls (.ref a :: st)) rfl rfl (hb X.hby hd)
  exact Run.of k (q T' (X.same X' e'))
theorem k_getS (X : WP p l e R s m args below meth c Z own mname bytes maxL ret n0 Inv Sf T h locs cells slots) {R0 O n d host : String} {index : Nat} {v : Value} (hd : decode bytes pc = .ok (.getstatic index, 3)) (w : (Cond.fieldLink own index R0 n d).before a0 Z = true ∨ (Cond.fieldLinkNest own index R0 n d host).before a0 Z = true) (via : Via Z R0 O n d) (F : Sta Z h O n d v) (hp : pc + 3 = pc')
    (q : ∀ T', WP p l e R s m args below meth c Z own mname bytes maxL ret n0 Inv Sf T' h locs cells slots → Run p.tables e below P T' (mkF m pc' Ls (v :: st))) : Run p.tables e below P T (mkF m pc Ls st) := by
  subst hp
  obtain ⟨T', X', e', k⟩ := Jvm.RoadKit.getS2 X.1 X.hx X.hZ X.hown w via X.eT F (g := mkF m pc Ls st) rfl (hb X.hby hd)
  exact Run.of k (q T' (X.same X' e'))
theorem k_putF (X : WP p l e R s m args below meth c Z own mname bytes maxL ret n0 Inv Sf T h locs cells slots) {R0 O n d host C : String} {index kk : Nat} {ty : FieldType} {a : Addr} {v old : Value} (hd : decode bytes pc = .ok (.putfield index, 3)) (w : (Cond.fieldLink own index R0 n d).before a0 Z = true ∨ (Cond.fieldLinkNest own index R0 n d host).before a0 Z = true) (via : Via Z R0 O n d) (F : Fld Z h a O n d old) (E : Exa Z h a C)
    (L : (Cond.lays C O n d).before a0 Z = true ∨ ((Cond.laysFinal C O n d).before a0 Z = true ∧ own = O ∧ meth.name = "<init>")) (wi : (Cond.instantiable C kk).before a0 Z = true) (hty : parseFieldDescriptor d = some ty) (hn : narrow ty v = v) (hf : fits ty v = true) (hsf : Sf h a) (hge : n0 ≤ a) (hp : pc + 3 = pc')
    (q : ∀ T' h' L', WP p l e R s m args below meth c Z own mname bytes maxL ret n0 Inv Sf T' h' L' cells slots → Wr h h' a (Jvm.RoadKit.slotOf Z O n d) v → Keep h h' [a] → Run p.tables e below P T' (mkF m pc' Ls st)) : Run p.tables e below P T (mkF m pc Ls (v :: .ref a :: st)) := by
  subst hp
  obtain ⟨T', h', X', e', W, k⟩ := Jvm.RoadKit.putF X.1 X.hx X.hZ X.hown w via X.eT F E L wi hty hn hf (g := mkF m pc Ls (v :: .ref a :: st)) rfl rfl (hb X.hby hd)
  have K := Keep.of_wr W
  exact Run.of k (q T' h' _ (X.mv X' e' K (allS ⟨hsf, hge⟩ all0) (X.fr.app (fr1 hge))) W K)
theorem k_newO (X : WP p l e R s m args below meth c Z own mname bytes maxL ret n0 Inv Sf T h locs cells slots) {C : String} {index n : Nat} (hd : decode bytes pc = .ok (.new index, 3)) (w : (Cond.classLink own index C).before a0 Z = true) (wi : (Cond.instantiable C n).before a0 Z = true) (wz : (Cond.initialized C).before a0 Z = true) (hc : cells + 1 ≤ R.cells) (hl : slots + n ≤ R.slots) (hp : pc + 3 = pc')
    (q : ∀ T' h' (b : Nat), b = h.size → WP p l e R s m args below meth c Z own mname bytes maxL ret n0 Inv Sf T' h' locs (cells + 1) (slots + n) → Keep h h' [] → Exa Z h' b C → (∀ {O nm d : String} {ty : FieldType}, Laid Z a0 C O nm d → parseFieldDescriptor d = some ty → Fld Z h' b O nm d (defaultValue ty)) → Sf h' b → b < h'.size → n0 ≤ b → Run p.tables e below P T' (mkF m pc' Ls (.ref b :: st))) : Run p.tables e below P T (mkF m pc Ls st) := by
  subst hp
  obtain ⟨T', h', X', e', E, A, D, -, k⟩ := Jvm.RoadKit.newO X.1 X.hx X.hZ X.hown w wi wz X.eT (g := mkF m pc Ls st) rfl (hb X.hby hd) hc hl
  have K := ext_keep E
  exact Run.of k (q T' h' h.size rfl (X.mv X' e' K (fun _ q => nomatch q) X.fr) K A (fun L t => D L t) (X.sf K (fun _ q => nomatch q) (X.sfN (Nat.le_refl _))) (own_n A.lt) X.n0le)
theorem k_newP (X : WP p l e R s m args below meth c Z own mname bytes maxL ret n0 Inv Sf T h locs cells slots) {aty : ArrayType} {n : Int32} {cap : Nat} (hd : decode bytes pc = .ok (.newarray aty, 2)) (w : (Cond.arrayClass (newarray.typeOf aty)).before a0 Z = true) (hn : ¬ n < 0) (hcap : n.toNatClampNeg ≤ cap) (hb' : cap * 8 ≤ 536870912) (hc : cells + 1 ≤ R.cells) (hl : slots + cap ≤ R.slots) (hp : pc + 2 = pc')
    (q : ∀ T' h' (b : Nat) k, b = h.size → WP p l e R s m args below meth c Z own mname bytes maxL ret n0 Inv Sf T' h' locs (cells + 1) (slots + cap) → Keep h h' [] → Arv Z h' b k (newarray.typeOf aty) n [] (defaultValue (newarray.typeOf aty)) → Sf h' b → b < h'.size → n0 ≤ b → Run p.tables e below P T' (mkF m pc' Ls (.ref b :: st))) : Run p.tables e below P T (mkF m pc Ls (.int n :: st)) := by
  subst hp
  obtain ⟨T', h', cA, X', e', E, A, k⟩ := Jvm.RoadKit.newP X.1 X.hx X.hZ w X.eT (g := mkF m pc Ls (.int n :: st)) rfl (hb X.hby hd) rfl hn hcap hb' hc hl
  have K := ext_keep E
  exact Run.of k (q T' h' h.size cA rfl (X.mv X' e' K (fun _ q => nomatch q) X.fr) K (Arv.new A hn) (X.sf K (fun _ q => nomatch q) (X.sfN (Nat.le_refl _))) (own_n A.lt) X.n0le)
theorem k_arlen (X : WP p l e R s m args below meth c Z own mname bytes maxL ret n0 Inv Sf T h locs cells slots) {a : Addr} {k : ClassId} {ty : FieldType} {z : Int32} {vs : List Value} {d : Value} (hd : decode bytes pc = .ok (.arraylength, 1)) (A : Arv Z h a k ty z vs d) (hp : pc + 1 = pc') (q : Run p.tables e below P T (mkF m pc' Ls (.int z :: st))) : Run p.tables e below P T (mkF m pc Ls (.ref a :: st)) := by
  subst hp
  obtain ⟨cl, A, -, S, N, -, -⟩ := A
  refine Run.of (X.1.arraylength X.hx (by rw [X.eT]; exact A.1) (State.isArrayOf_alike X.hZ.alike A.2.1) (g := mkF m pc Ls (.ref a :: st)) rfl rfl (hb X.hby hd)) ?_
  rw [len_of S N]; exact q
theorem k_initO (X : WP p l e R s m args below meth c Z own mname bytes maxL ret n0 Inv Sf T h locs cells slots) {idx W : Nat} {a : Addr} (hd : decode bytes pc = .ok (.invokespecial idx, 3)) (w1 : (Cond.methodLink own idx Lib.objectInit).before a0 Z = true) (w2 : (Cond.instanceMethod Lib.objectInit).before a0 Z = true) (w3 : (Cond.code Lib.objectInit ⟨#[0xb1]⟩ 1 none).before a0 Z = true)
    (hsz : Ls.size = maxL) (hf : 1 ≤ R.frames) (hW : (st.map fun v => v.category).sum ≤ W) (hl : W + 12 ≤ R.locals) (hp : pc + 3 = pc')
    (q : ∀ T', WP p l e R s m args below meth c Z own mname bytes maxL ret n0 Inv Sf T' h locs cells slots → Run p.tables e below P T' (mkF m pc' Ls st)) : Run p.tables e below P T (mkF m pc Ls (.ref a :: st)) := by
  subst hp
  obtain ⟨T', X', e', k⟩ := Jvm.RoadKit.initO X.1 X.hx X.hZ X.hown w1 w2 w3 X.eT (g := mkF m pc Ls (.ref a :: st)) rfl (by rw [X.hml]; exact hsz) rfl (hb X.hby hd) hf (W := W) (by show 2 * 0 + _ ≤ _; omega) hl
  exact Run.of k (q T' (X.same X' e'))
theorem k_castY (X : WP p l e R s m args below meth c Z own mname bytes maxL ret n0 Inv Sf T h locs cells slots) {K : String} {index : Nat} {a : Addr} (hd : decode bytes pc = .ok (.checkcast index, 3)) (w : (Cond.classLink own index K).before a0 Z = true) (F : Ins Z h a K true) (hp : pc + 3 = pc')
    (q : ∀ T', WP p l e R s m args below meth c Z own mname bytes maxL ret n0 Inv Sf T' h locs cells slots → Run p.tables e below P T' (mkF m pc' Ls (.ref a :: st))) : Run p.tables e below P T (mkF m pc Ls (.ref a :: st)) := by
  subst hp
  obtain ⟨T', X', e', k⟩ := Jvm.RoadKit.castY X.1 X.hx X.hZ X.hown w X.eT F (g := mkF m pc Ls (.ref a :: st)) rfl rfl (hb X.hby hd)
  exact Run.of k (q T' (X.same X' e'))
theorem k_instY (X : WP p l e R s m args below meth c Z own mname bytes maxL ret n0 Inv Sf T h locs cells slots) {K : String} {index : Nat} {a : Addr} (hd : decode bytes pc = .ok (.instanceof index, 3)) (w : (Cond.classLink own index K).before a0 Z = true) (F : Ins Z h a K true) (hp : pc + 3 = pc')
    (q : ∀ T', WP p l e R s m args below meth c Z own mname bytes maxL ret n0 Inv Sf T' h locs cells slots → Run p.tables e below P T' (mkF m pc' Ls (.int 1 :: st))) : Run p.tables e below P T (mkF m pc Ls (.ref a :: st)) := by
  subst hp
  obtain ⟨T', X', e', k⟩ := Jvm.RoadKit.instY X.1 X.hx X.hZ X.hown w X.eT F (g := mkF m pc Ls (.ref a :: st)) rfl rfl (hb X.hby hd)
  exact Run.of k (q T' (X.same X' e'))
theorem k_castore (X : WP p l e R s m args below meth c Z own mname bytes maxL ret n0 Inv Sf T h locs cells slots) {a : Addr} {k : ClassId} {z j x w : Int32} {vs : List Value} {d : Value} (i : Nat) (hd : decode bytes pc = .ok (.castore, 1)) (A : Arv Z h a k .char z vs d) (hj0 : ¬ j < 0) (hjz : j < z) (hj : j.toNatClampNeg = i) (hi : i < vs.length) (hw : nar .char x = w) {vs' : List Value} (hvs : vs.set i (.int w) = vs') (hsf : Sf h a) (hge : n0 ≤ a) (hp : pc + 1 = pc')
    (q : ∀ T' h' L', WP p l e R s m args below meth c Z own mname bytes maxL ret n0 Inv Sf T' h' L' cells slots → Keep h h' [a] → Arv Z h' a k .char z vs' d → Run p.tables e below P T' (mkF m pc' Ls st)) : Run p.tables e below P T (mkF m pc Ls (.int x :: .int j :: .ref a :: st)) := by
  subst hp hw hvs
  obtain ⟨cl, A, q1, S, N, H, G⟩ := A
  obtain ⟨T', h', X', e', W, kk⟩ := Jvm.RoadKit.stC X.1 X.hx X.hZ X.eT A (j := j) (inb_of S ⟨hj0, hjz⟩) (g := mkF m pc Ls (.int x :: .int j :: .ref a :: st)) rfl rfl (hb X.hby hd)
  have K := Keep.of_wr W
  exact Run.of kk (q T' h' _ (X.mv X' e' K (allS ⟨hsf, hge⟩ all0) (X.fr.app (fr1 hge))) K (Arv.set A q1 S N H G (fits_nar_char _) W i hj hi))
theorem k_bastore (X : WP p l e R s m args below meth c Z own mname bytes maxL ret n0 Inv Sf T h locs cells slots) {a : Addr} {k : ClassId} {z j x w : Int32} {vs : List Value} {d : Value} (i : Nat) (hd : decode bytes pc = .ok (.bastore, 1)) (A : Arv Z h a k .byte z vs d) (hj0 : ¬ j < 0) (hjz : j < z) (hj : j.toNatClampNeg = i) (hi : i < vs.length) (hw : nar .byte x = w) {vs' : List Value} (hvs : vs.set i (.int w) = vs') (hsf : Sf h a) (hge : n0 ≤ a) (hp : pc + 1 = pc')
    (q : ∀ T' h' L', WP p l e R s m args below meth c Z own mname bytes maxL ret n0 Inv Sf T' h' L' cells slots → Keep h h' [a] → Arv Z h' a k .byte z vs' d → Run p.tables e below P T' (mkF m pc' Ls st)) : Run p.tables e below P T (mkF m pc Ls (.int x :: .int j :: .ref a :: st)) := by
  subst hp hw hvs
  obtain ⟨cl, A, q1, S, N, H, G⟩ := A
  obtain ⟨T', h', X', e', W, kk⟩ := Jvm.RoadKit.stB X.1 X.hx X.hZ X.eT A (j := j) (inb_of S ⟨hj0, hjz⟩) (g := mkF m pc Ls (.int x :: .int j :: .ref a :: st)) rfl rfl (hb X.hby hd)
  have K := Keep.of_wr W
  exact Run.of kk (q T' h' _ (X.mv X' e' K (allS ⟨hsf, hge⟩ all0) (X.fr.app (fr1 hge))) K (Arv.set A q1 S N H G (fits_nar_byte _) W i hj hi))
theorem k_iastore (X : WP p l e R s m args below meth c Z own mname bytes maxL ret n0 Inv Sf T h locs cells slots) {a : Addr} {k : ClassId} {z j x w : Int32} {vs : List Value} {d : Value} (i : Nat) (hd : decode bytes pc = .ok (.iastore, 1)) (A : Arv Z h a k .int z vs d) (hj0 : ¬ j < 0) (hjz : j < z) (hj : j.toNatClampNeg = i) (hi : i < vs.length) (hw : x = w) {vs' : List Value} (hvs : vs.set i (.int w) = vs') (hsf : Sf h a) (hge : n0 ≤ a) (hp : pc + 1 = pc')
    (q : ∀ T' h' L', WP p l e R s m args below meth c Z own mname bytes maxL ret n0 Inv Sf T' h' L' cells slots → Keep h h' [a] → Arv Z h' a k .int z vs' d → Run p.tables e below P T' (mkF m pc' Ls st)) : Run p.tables e below P T (mkF m pc Ls (.int x :: .int j :: .ref a :: st)) := by
  subst hp hw hvs
  obtain ⟨cl, A, q1, S, N, H, G⟩ := A
  obtain ⟨T', h', X', e', W, kk⟩ := Jvm.RoadKit.stI X.1 X.hx X.hZ X.eT A (j := j) (inb_of S ⟨hj0, hjz⟩) (g := mkF m pc Ls (.int x :: .int j :: .ref a :: st)) rfl rfl (hb X.hby hd)
  have K := Keep.of_wr W
  exact Run.of kk (q T' h' _ (X.mv X' e' K (allS ⟨hsf, hge⟩ all0) (X.fr.app (fr1 hge))) K (Arv.set A q1 S N H G rfl W i hj hi))
theorem k_caload (X : WP p l e R s m args below meth c Z own mname bytes maxL ret n0 Inv Sf T h locs cells slots) {a : Addr} {k : ClassId} {z j : Int32} {vs : List Value} {d v : Value} (hd : decode bytes pc = .ok (.caload, 1)) (A : Arv Z h a k .char z vs d) (hj0 : ¬ j < 0) (hjz : j < z) (hv : vs.getD j.toNatClampNeg d = v) (hp : pc + 1 = pc') (q : Run p.tables e below P T (mkF m pc' Ls (v :: st))) : Run p.tables e below P T (mkF m pc Ls (.int j :: .ref a :: st)) := by
  subst hp
  obtain ⟨cl, A, q1, S, N, H, G⟩ := A
  exact Run.of (X.1.caload X.hx (j := j) (v := v) (by rw [X.eT]; exact A.1) (State.isArrayOf_alike X.hZ.alike A.2.1) A.2.2 (inb_of S ⟨hj0, hjz⟩) (H.at (inb_of S ⟨hj0, hjz⟩) hv) (g := mkF m pc Ls (.int j :: .ref a :: st)) rfl rfl (hb X.hby hd)) q
theorem k_baload (X : WP p l e R s m args below meth c Z own mname bytes maxL ret n0 Inv Sf T h locs cells slots) {a : Addr} {k : ClassId} {z j : Int32} {vs : List Value} {d v : Value} (hd : decode bytes pc = .ok (.baload, 1)) (A : Arv Z h a k .byte z vs d) (hj0 : ¬ j < 0) (hjz : j < z) (hv : vs.getD j.toNatClampNeg d = v) (hp : pc + 1 = pc') (q : Run p.tables e below P T (mkF m pc' Ls (v :: st))) : Run p.tables e below P T (mkF m pc Ls (.int j :: .ref a :: st)) := by
  subst hp
  obtain ⟨cl, A, q1, S, N, H, G⟩ := A
  exact Run.of (X.1.baloadBytes X.hx (j := j) (v := v) (by rw [X.eT]; exact A.1) (State.isArrayOf_alike X.hZ.alike A.2.1) A.2.2 (inb_of S ⟨hj0, hjz⟩) (H.at (inb_of S ⟨hj0, hjz⟩) hv) (g := mkF m pc Ls (.int j :: .ref a :: st)) rfl rfl (hb X.hby hd)) q
theorem k_iaload (X : WP p l e R s m args below meth c Z own mname bytes maxL ret n0 Inv Sf T h locs cells slots) {a : Addr} {k : ClassId} {z j : Int32} {vs : List Value} {d v : Value} (hd : decode bytes pc = .ok (.iaload, 1)) (A : Arv Z h a k .int z vs d) (hj0 : ¬ j < 0) (hjz : j < z) (hv : vs.getD j.toNatClampNeg d = v) (hp : pc + 1 = pc') (q : Run p.tables e below P T (mkF m pc' Ls (v :: st))) : Run p.tables e below P T (mkF m pc Ls (.int j :: .ref a :: st)) := by
  subst hp
  obtain ⟨cl, A, q1, S, N, H, G⟩ := A
  exact Run.of (X.1.iaload X.hx (j := j) (v := v) (by rw [X.eT]; exact A.1) (State.isArrayOf_alike X.hZ.alike A.2.1) A.2.2 (inb_of S ⟨hj0, hjz⟩) (H.at (inb_of S ⟨hj0, hjz⟩) hv) (g := mkF m pc Ls (.int j :: .ref a :: st)) rfl rfl (hb X.hby hd)) q
theorem k_aaload (X : WP p l e R s m args below meth c Z own mname bytes maxL ret n0 Inv Sf T h locs cells slots) {a : Addr} {k : ClassId} {z j : Int32} {vs : List Value} {d v : Value} {ty : FieldType} (hd : decode bytes pc = .ok (.aaload, 1)) (A : Arv Z h a k ty z vs d) (hr : ty.isReference = true) (hj0 : ¬ j < 0) (hjz : j < z) (hv : vs.getD j.toNatClampNeg d = v) (hp : pc + 1 = pc') (q : Run p.tables e below P T (mkF m pc' Ls (v :: st))) : Run p.tables e below P T (mkF m pc Ls (.int j :: .ref a :: st)) := by
  subst hp
  obtain ⟨cl, A, q1, S, N, H, G⟩ := A
  exact Run.of (X.1.aaload X.hx (j := j) (v := v) (by rw [X.eT]; exact A.1) (State.isArrayOf_alike X.hZ.alike A.2.1) hr A.2.2 (inb_of S ⟨hj0, hjz⟩) (H.at (inb_of S ⟨hj0, hjz⟩) hv) (g := mkF m pc Ls (.int j :: .ref a :: st)) rfl rfl (hb X.hby hd)) q
theorem k_castNull (X : WP p l e R s m args below meth c Z own mname bytes maxL ret n0 Inv Sf T h locs cells slots) {index : Nat} (hd : decode bytes pc = .ok (.checkcast index, 3)) (hp : pc + 3 = pc') (q : Run p.tables e below P T (mkF m pc' Ls (.null :: st))) : Run p.tables e below P T (mkF m pc Ls (.null :: st)) := by
  subst hp; exact Run.of (X.1.checkcastNull X.hx (g := mkF m pc Ls (.null :: st)) rfl rfl (hb X.hby hd)) q
theorem k_instNull (X : WP p l e R s m args below meth c Z own mname bytes maxL ret n0 Inv Sf T h locs cells slots) {index : Nat} (hd : decode bytes pc = .ok (.instanceof index, 3)) (hp : pc + 3 = pc') (q : Run p.tables e below P T (mkF m pc' Ls (.int 0 :: st))) : Run p.tables e below P T (mkF m pc Ls (.null :: st)) := by
  subst hp; exact Run.of (X.1.instanceofNull X.hx (g := mkF m pc Ls (.null :: st)) rfl rfl (hb X.hby hd)) q
theorem k_clone (X : WP p l e R s m args below meth c Z own mname bytes maxL ret n0 Inv Sf T h locs cells slots) {ad : String} {index W cap : Nat} {a : Addr} {k : ClassId} {ty : FieldType} {z : Int32} {vs : List Value} {d : Value} (hd : decode bytes pc = .ok (.invokevirtual index, 3)) (w1 : (Cond.methodLink own index ⟨ad, "clone", "()Ljava/lang/Object;"⟩).before a0 Z = true) (w2 : (Cond.sameMethod ad "java/lang/Object" "clone" "()Ljava/lang/Object;").before a0 Z = true) (w3 : (Cond.native ⟨"java/lang/Object", "clone", "()Ljava/lang/Object;"⟩).before a0 Z = true)
    (w4 : (Cond.instanceMethod ⟨"java/lang/Object", "clone", "()Ljava/lang/Object;"⟩).before a0 Z = true) (w5 : (Cond.selects ad ⟨ad, "clone", "()Ljava/lang/Object;"⟩ ⟨"java/lang/Object", "clone", "()Ljava/lang/Object;"⟩).before a0 Z = true) (w6 : (Cond.castable ad "java/lang/Cloneable").before a0 Z = true) (F : Arv Z h a k ty z vs d) (E : Exa Z h a ad) (hsz : Ls.size = maxL)
    (hf : 1 ≤ R.frames) (hW : (st.map fun v => v.category).sum ≤ W) (hl : W + 14 ≤ R.locals) (hcap : z.toNatClampNeg ≤ cap) (hc : cells + 1 ≤ R.cells) (hsl : slots + cap ≤ R.slots) (hp : pc + 3 = pc')
    (q : ∀ T' h' (b : Nat), b = h.size → WP p l e R s m args below meth c Z own mname bytes maxL ret n0 Inv Sf T' h' locs (cells + 1) (slots + cap) → Keep h h' [] → Arv Z h' b k ty z vs d → Exa Z h' b ad → Sf h' b → b < h'.size → n0 ≤ b → Run p.tables e below P T' (mkF m pc' Ls (.ref b :: st))) : Run p.tables e below P T (mkF m pc Ls (.ref a :: st)) := by
  subst hp
  obtain ⟨T', h', X', e', E', A', B', kk⟩ := Jvm.RoadKit.cloneH X.1 X.hx X.hZ X.hown w1 w2 w3 w4 w5 w6 X.eT F.arh E (g := mkF m pc Ls (.ref a :: st)) rfl (by rw [X.hml]; exact hsz) rfl (hb X.hby hd) hf (W := W) (by show 2 * 0 + _ ≤ _; omega) hl hcap hc hsl
  have K := ext_keep E'
  exact Run.of kk (q T' h' h.size rfl (X.mv X' e' K (fun _ q => nomatch q) X.fr) K A' B' (X.sf K (fun _ q => nomatch q) (X.sfN (Nat.le_refl _))) (own_n B'.lt) X.n0le)
theorem k_ldcI (X : WP p l e R s m args below meth c Z own mname bytes maxL ret n0 Inv Sf T h locs cells slots) {index : Nat} {v : Int32} (hd : decode bytes pc = .ok (.ldc index, 2)) (w : (Cond.constant own index v).before a0 Z = true) (hp : pc + 2 = pc') (q : Run p.tables e below P T (mkF m pc' Ls (.int v :: st))) : Run p.tables e below P T (mkF m pc Ls st) := by
  subst hp; exact Run.of (X.1.ldcInt X.hx X.hown (mvT X.hZ w) (g := mkF m pc Ls st) rfl (hb X.hby hd)) q
/-- the contract of a body that interns nothing -/
def MetF (l : Launch) (tw : List Jvm.Cond) (Z : State) (n0 : Nat) (y : MethodName) (bytes : ByteArray) (maxL : Nat) (ret : Option FieldType) (rm : Room) (as' : Array Value) (h : Heap) (ws : List Addr) (Q : Option Value → Heap → Prop) : Prop :=
  MetFree l y (head1 (Jvm.Cond.code y bytes maxL ret :: tw) rm) (fun a U => a = as' ∧ Z.Warmed39 U.vm ∧ U.heap = h) (fun _ _ _ _ _ => True) (fun _ U o U' => ∃ v L, o = .returned v ∧ ((Keep h U'.heap ws ∧ Q v U'.heap) ∧ Fr n0 L) ∧ FrameEnd U o U' L rm.cells rm.slots)
/-- its end -/
def PF (s : State) (below : List Frame) (n0 : Nat) (h0 : Heap) (ws : List Addr) (Q : Option Value → Heap → Prop) (k n : Nat) (t : State) : Prop := ∃ o, t.status = .running ∧ Ended t below o ∧ ∃ v L, o = .returned v ∧ ((Keep h0 t.heap ws ∧ Q v t.heap) ∧ Fr n0 L) ∧ FrameEnd s o t L k n
theorem clF (Z : State) : Cl Z (fun _ => True) (fun _ _ => True) := ⟨fun _ _ _ _ _ _ => ⟨trivial, fun _ _ => trivial⟩, fun _ _ _ => trivial, fun _ _ _ _ _ _ => trivial, fun _ _ _ _ _ _ => trivial⟩
theorem MetF.mono {l : Launch} {tw : List Jvm.Cond} {Z : State} {n0 : Nat} {y : MethodName} {bytes : ByteArray} {maxL : Nat} {ret : Option FieldType} {rm : Room} {as' : Array Value} {h : Heap} {ws : List Addr} {Q Q' : Option Value → Heap → Prop} (hM : MetF l tw Z n0 y bytes maxL ret rm as' h ws Q) (hq : ∀ r h', Q r h' → Q' r h') : MetF l tw Z n0 y bytes maxL ret rm as' h ws Q' := by
  intro p e ha hc hk s m args below hf happ hP hK
  obtain ⟨n, o, r1, r2, r3, v, L, e1, ⟨⟨K, q⟩, N⟩, r4⟩ := hM p e ha hc hk s m args below hf happ hP hK
  exact ⟨n, o, r1, r2, r3, v, L, e1, ⟨⟨K, hq _ _ q⟩, N⟩, r4⟩
theorem metF {y : MethodName} {bytes : ByteArray} {maxL : Nat} {ret : Option FieldType} {rm : Room} {as' : Array Value} {ws : List Addr} {Q : Option Value → Heap → Prop} {tw : List Jvm.Cond} (hpl : plainFor y = true) (Z0 : Old Z n0 h) {Ls : Array Slot} (hef : ∀ m, entryFrame m as' maxL = mkF m 0 Ls [])
    (body : ∀ p e s m below meth c T, WP p l e rm s m as' below meth c Z y.cls y.name bytes maxL ret n0 (fun _ => True) (fun _ _ => True) T h [] 0 0 → Run p.tables e below (PF s below n0 h ws Q rm.cells rm.slots) T (mkF m 0 Ls [])) : MetF l tw Z n0 y bytes maxL ret rm as' h ws Q := by
  refine MetFree.of_bodySF hpl hisR ?_
  intro p e s m args below meth c s₁ Bd hml0 hP hK
  obtain ⟨rfl, hZ, hh⟩ := hP
  have e0 : s₁.heap = h := by rw [← hh, Bd.state]; rfl
  obtain ⟨t, hs, o, hr, he, hq⟩ := body p e s m below meth c s₁ ⟨Stand.of_body Bd, e0, hZ, findClass_of_methodNamed Bd.named, Fr.nil n0, Z0, trivial, ⟨Bd.exec, Bd.bytes, hml0, Bd.returns, BodyLoose.notSynchronized Bd, (name_of_methodNamed Bd.named Bd.method).1⟩, clF Z⟩
  rw [← hef] at hs
  exact ⟨t, o, hs, hr, he, hq⟩

theorem k_retFI (X : WP p l e R s m args below meth c Z own mname bytes maxL ret n0 Inv Sf T h locs cells slots) {z : Int32} {ws : List Addr} {Q : Option Value → Heap → Prop} {k n : Nat} {h0 : Heap} (hd : decode bytes pc = .ok (.ireturn, 1)) (hr : ret = some .int) (K : Keep h0 h ws) (hQ : Q (some (.int z)) h) (hk : cells ≤ k) (hs : slots ≤ n) : Run p.tables e below (PF s below n0 h0 ws Q k n) T (mkF m pc Ls (.int z :: st)) := by
  have hlk := X.hlk
  obtain ⟨fs, hl, hrun, hended, hW, hsame⟩ := X.1.leave (v := some (.int z)) (fun q => by rw [X.hret, hr] at q; cases q)
  refine ⟨_, Jvm.RoadKit.retI X.1 X.hx (X.hret.trans hr) (hb X.hby hd) hl, _, hrun, hended, _, _, rfl, ⟨⟨?_, ?_⟩, X.fr⟩, ⟨_, rfl⟩, hW, hsame.mono hk hs⟩
  · show Keep h0 T.heap ws; rw [X.eT]; exact K
  · show Q _ T.heap; rw [X.eT]; exact hQ
theorem k_retFN (X : WP p l e R s m args below meth c Z own mname bytes maxL ret n0 Inv Sf T h locs cells slots) {z w : Int32} {ws : List Addr} {Q : Option Value → Heap → Prop} {k n : Nat} {h0 : Heap} (hd : decode bytes pc = .ok (.ireturn, 1)) {t : FieldType} (hr : ret = some t) (ht : t = .boolean ∨ t = .byte ∨ t = .char ∨ t = .short) (hnz : nar t z = w) (K : Keep h0 h ws) (hQ : Q (some (.int w)) h) (hk : cells ≤ k) (hs : slots ≤ n) : Run p.tables e below (PF s below n0 h0 ws Q k n) T (mkF m pc Ls (.int z :: st)) := by
  have hlk := X.hlk
  obtain ⟨fs, hl, hrun, hended, hW, hsame⟩ := X.1.leave (v := some (.int w)) (fun q => by rw [X.hret, hr] at q; cases q)
  refine ⟨_, Jvm.RoadKit.retN X.1 X.hx (X.hret.trans hr) ht (hb X.hby hd) (by rw [hnz]; exact hl), _, hrun, hended, _, _, rfl, ⟨⟨?_, ?_⟩, X.fr⟩, ⟨_, rfl⟩, hW, hsame.mono hk hs⟩
  · show Keep h0 T.heap ws; rw [X.eT]; exact K
  · show Q _ T.heap; rw [X.eT]; exact hQ
theorem k_retFA (X : WP p l e R s m args below meth c Z own mname bytes maxL ret n0 Inv Sf T h locs cells slots) {v : Value} {ws : List Addr} {Q : Option Value → Heap → Prop} {k n : Nat} {h0 : Heap} (hd : decode bytes pc = .ok (.areturn, 1)) {t : FieldType} (hr : ret = some t) (hn : narrow t v = v) (ht : t.isReference = true) (hv : v.isRef = true) (K : Keep h0 h ws) (hQ : Q (some (v)) h) (hk : cells ≤ k) (hs : slots ≤ n) : Run p.tables e below (PF s below n0 h0 ws Q k n) T (mkF m pc Ls (v :: st)) := by
  have hlk := X.hlk
  obtain ⟨fs, hl, hrun, hended, hW, hsame⟩ := X.1.leave (v := some (v)) (fun q => by rw [X.hret, hr] at q; cases q)
  refine ⟨_, Jvm.RoadKit.retOut X.1 X.hx (X.hret.trans hr) hn (Or.inr (Or.inr (Or.inr (Or.inr ⟨rfl, ht, hv⟩)))) (hb X.hby hd) hl, _, hrun, hended, _, _, rfl, ⟨⟨?_, ?_⟩, X.fr⟩, ⟨_, rfl⟩, hW, hsame.mono hk hs⟩
  · show Keep h0 T.heap ws; rw [X.eT]; exact K
  · show Q _ T.heap; rw [X.eT]; exact hQ
theorem k_retFV (X : WP p l e R s m args below meth c Z own mname bytes maxL ret n0 Inv Sf T h locs cells slots) {ws : List Addr} {Q : Option Value → Heap → Prop} {k n : Nat} {h0 : Heap} (hd : decode bytes pc = .ok (.return_, 1)) (hr : ret = none) (K : Keep h0 h ws) (hQ : Q none h) (hk : cells ≤ k) (hs : slots ≤ n) : Run p.tables e below (PF s below n0 h0 ws Q k n) T (mkF m pc Ls []) := by
  have hlk := X.hlk
  obtain ⟨fs, hl, hrun, hended, hW, hsame⟩ := X.1.leave (v := none) (fun _ => rfl)
  refine ⟨_, X.1.returnOut X.hx (X.hret.trans hr) (hb X.hby hd) hl, _, hrun, hended, _, _, rfl, ⟨⟨?_, ?_⟩, X.fr⟩, ⟨_, rfl⟩, hW, hsame.mono hk hs⟩
  · show Keep h0 T.heap ws; rw [X.eT]; exact K
  · show Q _ T.heap; rw [X.eT]; exact hQ
/-- what an interning walk keeps up: the literals of EL say their text -/
def InvH (Z : State) (a0 : Array Value) (EL : List (String × Nat)) (s0 : State) (v : Vm) (h : Heap) : Prop := EW Z a0 EL ∧ Z.Warmed39 v ∧ (∃ k0, s0.Since v k0 ∧ k0 ≤ h.size) ∧ CHr Z EL s0.vm s0.heap v h
theorem clH {EL : List (String × Nat)} {s0 : State} {v : Vm} (hal : Z.vm.Alike v) : Cl Z (InvH Z a0 EL s0 v) (Safe Z EL v) :=
  ⟨fun h h' ws K hs I => ⟨⟨I.1, I.2.1, by obtain ⟨k0, a, b⟩ := I.2.2.1; exact ⟨k0, a, Nat.le_trans b K.1⟩, I.2.2.2.trans (CHr.keep K hs I.2.2.2.1)⟩, fun x q => Safe.keep K hs I.2.2.2.1 q⟩, fun h x q => Safe.new q, fun h x C E h1 h2 => Safe.exa hal E h1 h2, fun h x c ty A ht => Safe.arr hal A ht⟩
/-- the contract of a body that may load literals -/
def MetH (l : Launch) (tw : List Jvm.Cond) (Z : State) (EL : List (String × Nat)) (n0 : Nat) (y : MethodName) (bytes : ByteArray) (maxL : Nat) (ret : Option FieldType) (rm : Room) (as' : Array Value) (h : Heap) (ws : List Addr) (Q : Option Value → Vm → Heap → Prop) : Prop :=
  MetFree l y (head1 (Jvm.Cond.code y bytes maxL ret :: tw) rm) (fun a U => a = as' ∧ Z.Warmed39 U.vm ∧ U.heap = h ∧ CHv Z EL U.vm h ∧ ∀ x ∈ ws, Safe Z EL U.vm h x) (fun _ _ _ _ _ => True)
    (fun _ U o U' => ∃ v L, o = .returned v ∧ ((Keep h U'.heap ws ∧ Q v U'.vm U'.heap) ∧ Fr n0 L) ∧ CHr Z EL U.vm U.heap U'.vm U'.heap ∧ ReturnedEndW U o U' L rm.cells rm.slots)
def PH (Z : State) (EL : List (String × Nat)) (s : State) (below : List Frame) (n0 : Nat) (h0 : Heap) (ws : List Addr) (Q : Option Value → Vm → Heap → Prop) (k n : Nat) (t : State) : Prop := ∃ o, t.status = .running ∧ Ended t below o ∧ ∃ v L, o = .returned v ∧ ((Keep h0 t.heap ws ∧ Q v t.vm t.heap) ∧ Fr n0 L) ∧ CHr Z EL s.vm s.heap t.vm t.heap ∧ ReturnedEndW s o t L k n
theorem metH {EL : List (String × Nat)} {y : MethodName} {bytes : ByteArray} {maxL : Nat} {ret : Option FieldType} {rm : Room} {as' : Array Value} {ws : List Addr} {Q : Option Value → Vm → Heap → Prop} {tw : List Jvm.Cond} (hEL : EW Z a0 EL) (hpl : plainFor y = true) (Z0 : Old Z n0 h) {Ls : Array Slot} (hef : ∀ m, entryFrame m as' maxL = mkF m 0 Ls [])
    (body : ∀ p e s m below meth c T v, WP p l e rm (s.setVm v) m as' below meth c Z y.cls y.name bytes maxL ret n0 (InvH Z a0 EL s v) (Safe Z EL v) T h [] 0 0 → (∀ x ∈ ws, Safe Z EL v h x) → Run p.tables e below (PH Z EL s below n0 h ws Q rm.cells rm.slots) T (mkF m 0 Ls [])) : MetH l tw Z EL n0 y bytes maxL ret rm as' h ws Q := by
  refine MetFree.of_bodySF hpl hisR ?_
  intro p e s m args below meth c s₁ Bd hml0 hP hK
  obtain ⟨rfl, hZ, hh, hC, hS⟩ := hP
  have e0 : s₁.heap = h := by rw [← hh, Bd.state]; rfl
  have I : InvH Z a0 EL s s.vm h := ⟨hEL, hZ, ⟨s.heap.size, (State.WarmedH.refl s).since _, by rw [hh]; exact Nat.le_refl _⟩, by rw [hh]; exact CHr.refl hC⟩
  obtain ⟨t, hs, o, hr, he, hq⟩ := body p e s m below meth c s₁ s.vm ⟨Stand.of_body Bd, e0, hZ, findClass_of_methodNamed Bd.named, Fr.nil n0, Z0, I, ⟨Bd.exec, Bd.bytes, hml0, Bd.returns, BodyLoose.notSynchronized Bd, (name_of_methodNamed Bd.named Bd.method).1⟩, clH hZ.alike⟩ hS
  rw [← hef] at hs
  exact ⟨t, o, hs, hr, he, hq⟩

theorem k_retHI {EL : List (String × Nat)} {v : Vm} (X : WP p l e R (s.setVm v) m args below meth c Z own mname bytes maxL ret n0 (InvH Z a0 EL s v) (Safe Z EL v) T h locs cells slots) {z : Int32} {ws : List Addr} {Q : Option Value → Vm → Heap → Prop} {k n : Nat} {h0 : Heap} (hd : decode bytes pc = .ok (.ireturn, 1)) (hr : ret = some .int) (K : Keep h0 h ws) (hQ : ∀ v', CHr Z EL v h v' h → Q (some (.int z)) v' h) (hk : cells ≤ k) (hs : slots ≤ n) : Run p.tables e below (PH Z EL s below n0 h0 ws Q k n) T (mkF m pc Ls (.int z :: st)) := by
  have hlk := X.hlk
  obtain ⟨hEL, hWv, ⟨k0, hS, hk0⟩, hC⟩ := X.inv
  obtain ⟨fs, hl, hrun, hended, hRW⟩ := X.1.leaveW hS (by rw [X.eT]; exact hk0) (v := some (.int z)) (fun q => by rw [X.hret, hr] at q; cases q)
  have hC' : CHr Z EL v h T.vm h := CHv.at X.1 hWv hEL hC.1
  refine ⟨_, Jvm.RoadKit.retI X.1 X.hx (X.hret.trans hr) (hb X.hby hd) hl, _, hrun, hended, _, _, rfl, ⟨⟨?_, ?_⟩, X.fr⟩, ?_, hRW.1, hRW.2.1, hRW.2.2.1, hRW.2.2.2.mono hk hs⟩
  · show Keep h0 T.heap ws; rw [X.eT]; exact K
  · show Q _ T.vm T.heap; rw [X.eT]; exact hQ _ hC'
  · show CHr Z EL s.vm s.heap T.vm T.heap; rw [X.eT]; exact hC.trans hC'
theorem k_retHN {EL : List (String × Nat)} {v : Vm} (X : WP p l e R (s.setVm v) m args below meth c Z own mname bytes maxL ret n0 (InvH Z a0 EL s v) (Safe Z EL v) T h locs cells slots) {z w : Int32} {ws : List Addr} {Q : Option Value → Vm → Heap → Prop} {k n : Nat} {h0 : Heap} (hd : decode bytes pc = .ok (.ireturn, 1)) {t : FieldType} (hr : ret = some t) (ht : t = .boolean ∨ t = .byte ∨ t = .char ∨ t = .short) (hnz : nar t z = w) (K : Keep h0 h ws) (hQ : ∀ v', CHr Z EL v h v' h → Q (some (.int w)) v' h) (hk : cells ≤ k) (hs : slots ≤ n) : Run p.tables e below (PH Z EL s below n0 h0 ws Q k n) T (mkF m pc Ls (.int z :: st)) := by
  have hlk := X.hlk
  obtain ⟨hEL, hWv, ⟨k0, hS, hk0⟩, hC⟩ := X.inv
  obtain ⟨fs, hl, hrun, hended, hRW⟩ := X.1.leaveW hS (by rw [X.eT]; exact hk0) (v := some (.int w)) (fun q => by rw [X.hret, hr] at q; cases q)
  have hC' : CHr Z EL v h T.vm h := CHv.at X.1 hWv hEL hC.1
  refine ⟨_, Jvm.RoadKit.retN X.1 X.hx (X.hret.trans hr) ht (hb X.hby hd) (by rw [hnz]; exact hl), _, hrun, hended, _, _, rfl, ⟨⟨?_, ?_⟩, X.fr⟩, ?_, hRW.1, hRW.2.1, hRW.2.2.1, hRW.2.2.2.mono hk hs⟩
  · show Keep h0 T.heap ws; rw [X.eT]; exact K
  · show Q _ T.vm T.heap; rw [X.eT]; exact hQ _ hC'
  · show CHr Z EL s.vm s.heap T.vm T.heap; rw [X.eT]; exact hC.trans hC'
theorem k_retHA {EL : List (String × Nat)} {v : Vm} (X : WP p l e R (s.setVm v) m args below meth c Z own mname bytes maxL ret n0 (InvH Z a0 EL s v) (Safe Z EL v) T h locs cells slots) {x : Value} {ws : List Addr} {Q : Option Value → Vm → Heap → Prop} {k n : Nat} {h0 : Heap} (hd : decode bytes pc = .ok (.areturn, 1)) {t : FieldType} (hr : ret = some t) (hn : narrow t x = x) (ht : t.isReference = true) (hv : x.isRef = true) (K : Keep h0 h ws) (hQ : ∀ v', CHr Z EL v h v' h → Q (some (x)) v' h) (hk : cells ≤ k) (hs : slots ≤ n) : Run p.tables e below (PH Z EL s below n0 h0 ws Q k n) T (mkF m pc Ls (x :: st)) := by
  have hlk := X.hlk
  obtain ⟨hEL, hWv, ⟨k0, hS, hk0⟩, hC⟩ := X.inv
  obtain ⟨fs, hl, hrun, hended, hRW⟩ := X.1.leaveW hS (by rw [X.eT]; exact hk0) (v := some (x)) (fun q => by rw [X.hret, hr] at q; cases q)
  have hC' : CHr Z EL v h T.vm h := CHv.at X.1 hWv hEL hC.1
  refine ⟨_, Jvm.RoadKit.retOut X.1 X.hx (X.hret.trans hr) hn (Or.inr (Or.inr (Or.inr (Or.inr ⟨rfl, ht, hv⟩)))) (hb X.hby hd) hl, _, hrun, hended, _, _, rfl, ⟨⟨?_, ?_⟩, X.fr⟩, ?_, hRW.1, hRW.2.1, hRW.2.2.1, hRW.2.2.2.mono hk hs⟩
  · show Keep h0 T.heap ws; rw [X.eT]; exact K
  · show Q _ T.vm T.heap; rw [X.eT]; exact hQ _ hC'
  · show CHr Z EL s.vm s.heap T.vm T.heap; rw [X.eT]; exact hC.trans hC'
theorem k_retHV {EL : List (String × Nat)} {v : Vm} (X : WP p l e R (s.setVm v) m args below meth c Z own mname bytes maxL ret n0 (InvH Z a0 EL s v) (Safe Z EL v) T h locs cells slots) {ws : List Addr} {Q : Option Value → Vm → Heap → Prop} {k n : Nat} {h0 : Heap} (hd : decode bytes pc = .ok (.return_, 1)) (hr : ret = none) (K : Keep h0 h ws) (hQ : ∀ v', CHr Z EL v h v' h → Q none v' h) (hk : cells ≤ k) (hs : slots ≤ n) : Run p.tables e below (PH Z EL s below n0 h0 ws Q k n) T (mkF m pc Ls []) := by
  have hlk := X.hlk
  obtain ⟨hEL, hWv, ⟨k0, hS, hk0⟩, hC⟩ := X.inv
  obtain ⟨fs, hl, hrun, hended, hRW⟩ := X.1.leaveW hS (by rw [X.eT]; exact hk0) (v := none) (fun _ => rfl)
  have hC' : CHr Z EL v h T.vm h := CHv.at X.1 hWv hEL hC.1
  refine ⟨_, X.1.returnOut X.hx (X.hret.trans hr) (hb X.hby hd) hl, _, hrun, hended, _, _, rfl, ⟨⟨?_, ?_⟩, X.fr⟩, ?_, hRW.1, hRW.2.1, hRW.2.2.1, hRW.2.2.2.mono hk hs⟩
  · show Keep h0 T.heap ws; rw [X.eT]; exact K
  · show Q _ T.vm T.heap; rw [X.eT]; exact hQ _ hC'
  · show CHr Z EL s.vm s.heap T.vm T.heap; rw [X.eT]; exact hC.trans hC'
theorem WP.reH {EL : List (String × Nat)} {v : Vm} (X : WP p l e R (s.setVm v) m args below meth c Z own mname bytes maxL ret n0 (InvH Z a0 EL s v) (Safe Z EL v) T h locs cells slots) {v' : Vm} {T' : State} {h' : Heap} {locs' : List Loc} {cells' slots' : Nat} (X' : Stand p l e R (s.setVm v') m args below meth c T' locs' cells' slots') (e' : T'.heap = h') {ws : List Addr} (K : Keep h h' ws) {k1 : Nat} (hS : s.Since v' k1) (hk : k1 ≤ h'.size) (hW : Z.Warmed39 v') (ho : v'.findClass own = some m.cls) (hC : CHr Z EL v h v' h') (hge : ∀ x ∈ ws, n0 ≤ x) (N : Fr n0 locs') : WP p l e R (s.setVm v') m args below meth c Z own mname bytes maxL ret n0 (InvH Z a0 EL s v') (Safe Z EL v') T' h' locs' cells' slots' :=
  ⟨X', e', hW, ho, N, X.old.keep K hge, ⟨X.inv.1, hW, ⟨k1, hS, hk⟩, X.inv.2.2.2.trans hC⟩, X.2.2.2.2.2.2.2.1, clH hW.alike⟩
theorem k_ldcO {EL : List (String × Nat)} {v : Vm} (X : WP p l e R (s.setVm v) m args below meth c Z own mname bytes maxL ret n0 (InvH Z a0 EL s v) (Safe Z EL v) T h locs cells slots) {text : String} {index n : Nat} (hd : decode bytes pc = .ok (.ldc index, 2)) (w : (Cond.stringLink own index text).before a0 Z = true) (wS : ∀ a ∈ Bundle.stringAtoms, a.before a0 Z = true) (hn : 4 * text.toList.length ≤ n) (hbig : n ≤ 536870912) (hc : cells + 2 ≤ R.cells) (hl : slots + (n + 4) ≤ R.slots) (hp : pc + 2 = pc')
    (q : ∀ a v' T' h', WP p l e R (s.setVm v') m args below meth c Z own mname bytes maxL ret n0 (InvH Z a0 EL s v') (Safe Z EL v') T' h' locs (cells + 2) (slots + (n + 4)) → Keep h h' [] → CHr Z EL v h v' h' → Run p.tables e below P T' (mkF m pc' Ls (.ref a :: st))) : Run p.tables e below P T (mkF m pc Ls st) := by
  subst hp
  obtain ⟨hEL, hWv, ⟨k0, hS, hk0⟩, hC⟩ := X.inv
  obtain ⟨a, T', h', k1, X', e', E, hS', hk1, hZ', ho', hC', -, k⟩ := ldcOH X.1 X.hx hWv X.hown w wS X.eT hS hk0 hEL hC.1 (g := mkF m pc Ls st) rfl (hb X.hby hd) hn hbig hc hl
  have K := ext_keep E
  exact Run.of k (q a T'.vm T' h' (X.reH X' e' K hS' hk1 hZ' ho' hC' (fun _ q => nomatch q) X.fr) K hC')
theorem k_ldcR {EL : List (String × Nat)} {v : Vm} (X : WP p l e R (s.setVm v) m args below meth c Z own mname bytes maxL ret n0 (InvH Z a0 EL s v) (Safe Z EL v) T h locs cells slots) {text : String} {index n : Nat} (hd : decode bytes pc = .ok (.ldc index, 2)) (w : (Cond.stringLink own index text).before a0 Z = true) (wS : ∀ a ∈ Bundle.stringAtoms, a.before a0 Z = true) (hmem : (own, index) ∈ EL) {vs : List Value} {z : Int32} (ht : (∀ c ∈ text.toList, c.toNat < 256) ∧ text.toList.map (fun c => Value.int (Jvm.Lit.byteI c.toNat.toUInt16)) = vs) (hz : ¬ z < 0) (hlv : z.toNatClampNeg = vs.length)
    (hn : 4 * text.toList.length ≤ n) (hbig : n ≤ 536870912) (hc : cells + 2 ≤ R.cells) (hl : slots + (n + 4) ≤ R.slots) (hp : pc + 2 = pc')
    (q : ∀ a b kb v' T' h', WP p l e R (s.setVm v') m args below meth c Z own mname bytes maxL ret n0 (InvH Z a0 EL s v') (Safe Z EL v') T' h' locs (cells + 2) (slots + (n + 4)) → Keep h h' [] → CHr Z EL v h v' h' → Exa Z h' a "java/lang/String" → Fld Z h' a "java/lang/String" "coder" "B" (.int 0) → Fld Z h' a "java/lang/String" "value" "[B" (.ref b) → Arv Z h' b kb .byte z vs (.int 0) → (∀ x, Safe Z EL v' h' x → x ≠ a ∧ x ≠ b) → Run p.tables e below P T' (mkF m pc' Ls (.ref a :: st))) : Run p.tables e below P T (mkF m pc Ls st) := by
  subst hp
  obtain ⟨hEL, hWv, ⟨k0, hS, hk0⟩, hC⟩ := X.inv
  obtain ⟨a, T', h', k1, b, kb, X', e', E, hS', hk1, hZ', ho', A, F1, F2, V, -, -, hC', -, hne, k⟩ := ldcCH X.1 X.hx hWv X.hown w wS X.eT hS hk0 hEL hmem hC.1 ht hz hlv (g := mkF m pc Ls st) rfl (hb X.hby hd) hn hbig hc hl
  have K := ext_keep E
  exact Run.of k (q a b kb T'.vm T' h' (X.reH X' e' K hS' hk1 hZ' ho' hC' (fun _ q => nomatch q) X.fr) K hC' A F1 F2 V hne)
theorem backH {EL : List (String × Nat)} {v : Vm} {y : MethodName} {bytes : ByteArray} {maxL : Nat} {ret : Option FieldType} {rm : Room} {len W : Nat} {as' : Array Value} {ws : List Addr} {Q : Option Value → Vm → Heap → Prop}
    (hM : MetH l [] Z EL n0 y bytes maxL ret rm as' h ws Q) (hZ : Z.Warmed39 v) (wc : (Cond.code y bytes maxL ret).before a0 Z = true) (wz : (Cond.initialized y.cls).before a0 Z = true) (hf : rm.frames + 1 ≤ R.frames) (hl : W + (maxL + 11) + rm.locals ≤ R.locals) (hEL : EW Z a0 EL) (H : CHv Z EL v h) (hs : ∀ x ∈ ws, x < h.size ∧ Safe Z EL v h x) :
    BackS l R p e below (s.setVm v) args y len W (fun A a => a = as' ∧ A.U.heap = h ∧ A.cells + rm.cells ≤ R.cells ∧ A.slots + rm.slots ≤ R.slots)
      (fun A _ r B => ∃ L, ((Keep h B.U.heap ws ∧ Q r B.U.vm B.U.heap) ∧ Fr n0 L) ∧ B.locs = A.locs ++ L ∧ B.cells = A.cells + rm.cells ∧ B.slots = A.slots + rm.slots ∧ CHr Z EL v h B.U.vm B.U.heap) :=
  BackS.of_freeW (bytes := bytes) (maxL := maxL) (ret := ret) (E := fun _ first o t L k n => k = rm.cells ∧ n = rm.slots ∧ (∃ r, o = .returned r ∧ ((Keep h t.heap ws ∧ Q r t.vm t.heap) ∧ Fr n0 L)) ∧ CHr Z EL first.vm first.heap t.vm t.heap) hM hf hl
    (fun m meth c A a Y hp => have hU : Z.Warmed39 A.U.vm := wtrans (s := s.setVm v) hZ Y.warmed
      ⟨by show (Cond.and _ .tt).before a A.U = true; rw [Cond.before_and, Jvm.RoadKit.mv hU wc]; rfl, Jvm.RoadKit.mv hU wc, Jvm.RoadKit.mv hU wz, hp.2.2.1, hp.2.2.2⟩)
    (fun m meth c A a g mk Y hp => ⟨hp.1, wtrans (s := s.setVm v) hZ Y.warmed, hp.2.1, (CHv.at Y hZ hEL H).1, fun x hx => (CHv.at Y hZ hEL H).safe (hs x hx).1 (hs x hx).2⟩) (fun _ _ _ _ _ _ _ _ _ => trivial)
    (fun _ _ _ _ ⟨r, L, h1, h2, h3, h4⟩ => ⟨L, _, _, h4, rfl, rfl, ⟨r, h1, h2⟩, h3⟩)
    (fun m meth c A a g mk r t L k n Y hp _ _ ⟨e1, e2, ⟨r', e3, e4⟩, e5⟩ => by
      cases e3; subst e1 e2
      refine ⟨L, e4, rfl, rfl, rfl, (CHv.at Y hZ hEL H).trans ?_⟩
      rw [← hp.2.1]; exact e5)
theorem k_callSVF (X : WP p l e R s m args below meth c Z own mname bytes maxL ret n0 Inv Sf T h locs cells slots) {y : MethodName} {index W : Nat} {bytes' : ByteArray} {maxL' : Nat} {ret' : Option FieldType} {rm : Room} {ws : List Addr} {Q : Value → Heap → Prop}  {argsL rest stk : List Value} {ps : List FieldType} {rt : Option FieldType} (hd : decode bytes pc = .ok (.invokestatic index, 3)) (w1 : (Cond.methodLink own index y).before a0 Z = true) (w2 : (Cond.static y).before a0 Z = true) (wz : (Cond.initialized y.cls).before a0 Z = true) (wc : (Cond.code y bytes' maxL' ret').before a0 Z = true) (hy : y.cls ≠ "java/lang/invoke/MethodHandle" ∧ y.cls ≠ "java/lang/invoke/VarHandle")  (hM : MetF l [] Z n0 y bytes' maxL' ret' rm argsL.toArray h ws (fun r h' => ∃ w, r = some w ∧ Q w h')) (hstk : stk = argsL.reverse ++ rest) (hpd : parseMethodDescriptor y.desc = some ⟨ps, rt⟩) (hlen : argsL.length = ps.length) (hsz : Ls.size = maxL) (hfr : rm.frames + 1 ≤ R.frames) (hW : (rest.map fun v => v.category).sum ≤ W) (hlo : W + (maxL' + 11) + rm.locals ≤ R.locals) (hc : cells + rm.cells ≤ R.cells) (hs : slots + rm.slots ≤ R.slots) (hsf : ∀ x ∈ ws, Sf h x ∧ n0 ≤ x) (hp : pc + 3 = pc')
    (q : ∀ w T' h' L', WP p l e R s m args below meth c Z own mname bytes maxL ret n0 Inv Sf T' h' L' (cells + rm.cells) (slots + rm.slots) → Keep h h' ws → Q w h' → Run p.tables e below P T' (mkF m pc' Ls (w :: rest))) : Run p.tables e below P T (mkF m pc Ls stk) := by
  subst hp
  have bk := backOf (R := R) (p := p) (e := e) (below := below) (args := args) (len := 3) (W := W) (Q := fun r h' L => (Keep h h' ws ∧ (fun r h' => ∃ w, r = some w ∧ Q w h') r h') ∧ Fr n0 L) hM X.hZ wc wz hfr hlo
  obtain ⟨r, _, ⟨T', L', k', n'⟩, -, X', ⟨Lc, hQ, l1, l2, l3⟩, kk⟩ := Jvm.LawKit.callS X.1 X.hx (y := y) X.hown (mvT X.hZ w1) (mvT X.hZ w2) (mvT X.hZ wz) (mvT X.hZ wc) hy bk (g := mkF m pc Ls stk) rfl (by rw [X.hml]; exact hsz) (argsL := argsL) (rest := rest) (lenOf hpd hlen) hstk (by show 2 * 0 + _ ≤ _; omega) (hb X.hby hd) (fun _ _ => ⟨rfl, X.eT, hc, hs⟩)
  dsimp only [Pt.U, Pt.locs, Pt.cells, Pt.slots] at X' l1 l2 l3 kk hQ
  subst l1 l2 l3
  obtain ⟨⟨K, w, rfl, hQ⟩, N⟩ := hQ
  exact Run.of kk (q _ _ _ _ (X.mv X' rfl K hsf (X.fr.app N)) K hQ)
theorem k_callSNF (X : WP p l e R s m args below meth c Z own mname bytes maxL ret n0 Inv Sf T h locs cells slots) {y : MethodName} {index W : Nat} {bytes' : ByteArray} {maxL' : Nat} {ret' : Option FieldType} {rm : Room} {ws : List Addr} {Q : Heap → Prop}  {argsL rest stk : List Value} {ps : List FieldType} {rt : Option FieldType} (hd : decode bytes pc = .ok (.invokestatic index, 3)) (w1 : (Cond.methodLink own index y).before a0 Z = true) (w2 : (Cond.static y).before a0 Z = true) (wz : (Cond.initialized y.cls).before a0 Z = true) (wc : (Cond.code y bytes' maxL' ret').before a0 Z = true) (hy : y.cls ≠ "java/lang/invoke/MethodHandle" ∧ y.cls ≠ "java/lang/invoke/VarHandle")  (hM : MetF l [] Z n0 y bytes' maxL' ret' rm argsL.toArray h ws (fun r h' => r = none ∧ Q h')) (hstk : stk = argsL.reverse ++ rest) (hpd : parseMethodDescriptor y.desc = some ⟨ps, rt⟩) (hlen : argsL.length = ps.length) (hsz : Ls.size = maxL) (hfr : rm.frames + 1 ≤ R.frames) (hW : (rest.map fun v => v.category).sum ≤ W) (hlo : W + (maxL' + 11) + rm.locals ≤ R.locals) (hc : cells + rm.cells ≤ R.cells) (hs : slots + rm.slots ≤ R.slots) (hsf : ∀ x ∈ ws, Sf h x ∧ n0 ≤ x) (hp : pc + 3 = pc')
    (q : ∀ T' h' L', WP p l e R s m args below meth c Z own mname bytes maxL ret n0 Inv Sf T' h' L' (cells + rm.cells) (slots + rm.slots) → Keep h h' ws → Q h' → Run p.tables e below P T' (mkF m pc' Ls (rest))) : Run p.tables e below P T (mkF m pc Ls stk) := by
  subst hp
  have bk := backOf (R := R) (p := p) (e := e) (below := below) (args := args) (len := 3) (W := W) (Q := fun r h' L => (Keep h h' ws ∧ (fun r h' => r = none ∧ Q h') r h') ∧ Fr n0 L) hM X.hZ wc wz hfr hlo
  obtain ⟨r, _, ⟨T', L', k', n'⟩, -, X', ⟨Lc, hQ, l1, l2, l3⟩, kk⟩ := Jvm.LawKit.callS X.1 X.hx (y := y) X.hown (mvT X.hZ w1) (mvT X.hZ w2) (mvT X.hZ wz) (mvT X.hZ wc) hy bk (g := mkF m pc Ls stk) rfl (by rw [X.hml]; exact hsz) (argsL := argsL) (rest := rest) (lenOf hpd hlen) hstk (by show 2 * 0 + _ ≤ _; omega) (hb X.hby hd) (fun _ _ => ⟨rfl, X.eT, hc, hs⟩)
  dsimp only [Pt.U, Pt.locs, Pt.cells, Pt.slots] at X' l1 l2 l3 kk hQ
  subst l1 l2 l3
  obtain ⟨⟨K, rfl, hQ⟩, N⟩ := hQ
  exact Run.of kk (q _ _ _ (X.mv X' rfl K hsf (X.fr.app N)) K hQ)
theorem k_callSVH {EL : List (String × Nat)} {v : Vm} (X : WP p l e R (s.setVm v) m args below meth c Z own mname bytes maxL ret n0 (InvH Z a0 EL s v) (Safe Z EL v) T h locs cells slots) {y : MethodName} {index W : Nat} {bytes' : ByteArray} {maxL' : Nat} {ret' : Option FieldType} {rm : Room} {ws : List Addr} {Q : Value → Vm → Heap → Prop}  {argsL rest stk : List Value} {ps : List FieldType} {rt : Option FieldType} (hd : decode bytes pc = .ok (.invokestatic index, 3)) (w1 : (Cond.methodLink own index y).before a0 Z = true) (w2 : (Cond.static y).before a0 Z = true) (wz : (Cond.initialized y.cls).before a0 Z = true) (wc : (Cond.code y bytes' maxL' ret').before a0 Z = true) (hy : y.cls ≠ "java/lang/invoke/MethodHandle" ∧ y.cls ≠ "java/lang/invoke/VarHandle")  (hM : MetH l [] Z EL n0 y bytes' maxL' ret' rm argsL.toArray h ws (fun r v' h' => ∃ w, r = some w ∧ Q w v' h')) (hstk : stk = argsL.reverse ++ rest) (hpd : parseMethodDescriptor y.desc = some ⟨ps, rt⟩) (hlen : argsL.length = ps.length) (hsz : Ls.size = maxL) (hfr : rm.frames + 1 ≤ R.frames) (hW : (rest.map fun v => v.category).sum ≤ W) (hlo : W + (maxL' + 11) + rm.locals ≤ R.locals) (hc : cells + rm.cells ≤ R.cells) (hs : slots + rm.slots ≤ R.slots) (hsf : ∀ x ∈ ws, (x < h.size ∧ Safe Z EL v h x) ∧ n0 ≤ x) (hp : pc + 3 = pc')
    (q : ∀ w v' T' h' L', WP p l e R (s.setVm v') m args below meth c Z own mname bytes maxL ret n0 (InvH Z a0 EL s v') (Safe Z EL v') T' h' L' (cells + rm.cells) (slots + rm.slots) → Keep h h' ws → CHr Z EL v h v' h' → Q w v' h' → Run p.tables e below P T' (mkF m pc' Ls (w :: rest))) : Run p.tables e below P T (mkF m pc Ls stk) := by
  subst hp
  obtain ⟨hEL, hWv, ⟨k0, hS, hk0⟩, hC⟩ := X.inv
  have bk := backH (R := R) (p := p) (e := e) (below := below) (s := s) (args := args) (len := 3) (W := W) hM hWv wc wz hfr hlo hEL hC.1 (fun x q => (hsf x q).1)
  obtain ⟨r, _, ⟨T', L', k', n'⟩, -, X', hS2, hgr, ⟨Lc, hQ, l1, l2, l3, hC'⟩, kk⟩ := callSS X.1 X.hx (y := y) X.hown (mvT X.hZ w1) (mvT X.hZ w2) (mvT X.hZ wz) (mvT X.hZ wc) hy bk (g := mkF m pc Ls stk) rfl (by rw [X.hml]; exact hsz) (argsL := argsL) (rest := rest) (lenOf hpd hlen) hstk (by show 2 * 0 + _ ≤ _; omega) (hb X.hby hd) (fun _ _ => ⟨rfl, X.eT, hc, hs⟩)
  dsimp only [Pt.U, Pt.locs, Pt.cells, Pt.slots] at X' l1 l2 l3 kk hQ hS2 hgr hC'
  subst l1 l2 l3
  obtain ⟨⟨K, w, rfl, hQ⟩, N⟩ := hQ
  obtain ⟨X2, hS3, hZ2, ho2⟩ := rebS hS (show k0 ≤ T.heap.size by rw [X.eT]; exact hk0) X' hS2 hgr X.hZ X.hown
  exact Run.tr kk (q _ _ _ _ _ (X.reH X2 rfl K hS3 (Nat.le_refl _) hZ2 ho2 hC' (fun x q => (hsf x q).2) (X.fr.app N)) K hC' hQ)
theorem k_callSNH {EL : List (String × Nat)} {v : Vm} (X : WP p l e R (s.setVm v) m args below meth c Z own mname bytes maxL ret n0 (InvH Z a0 EL s v) (Safe Z EL v) T h locs cells slots) {y : MethodName} {index W : Nat} {bytes' : ByteArray} {maxL' : Nat} {ret' : Option FieldType} {rm : Room} {ws : List Addr} {Q : Vm → Heap → Prop}  {argsL rest stk : List Value} {ps : List FieldType} {rt : Option FieldType} (hd : decode bytes pc = .ok (.invokestatic index, 3)) (w1 : (Cond.methodLink own index y).before a0 Z = true) (w2 : (Cond.static y).before a0 Z = true) (wz : (Cond.initialized y.cls).before a0 Z = true) (wc : (Cond.code y bytes' maxL' ret').before a0 Z = true) (hy : y.cls ≠ "java/lang/invoke/MethodHandle" ∧ y.cls ≠ "java/lang/invoke/VarHandle")  (hM : MetH l [] Z EL n0 y bytes' maxL' ret' rm argsL.toArray h ws (fun r v' h' => r = none ∧ Q v' h')) (hstk : stk = argsL.reverse ++ rest) (hpd : parseMethodDescriptor y.desc = some ⟨ps, rt⟩) (hlen : argsL.length = ps.length) (hsz : Ls.size = maxL) (hfr : rm.frames + 1 ≤ R.frames) (hW : (rest.map fun v => v.category).sum ≤ W) (hlo : W + (maxL' + 11) + rm.locals ≤ R.locals) (hc : cells + rm.cells ≤ R.cells) (hs : slots + rm.slots ≤ R.slots) (hsf : ∀ x ∈ ws, (x < h.size ∧ Safe Z EL v h x) ∧ n0 ≤ x) (hp : pc + 3 = pc')
    (q : ∀ v' T' h' L', WP p l e R (s.setVm v') m args below meth c Z own mname bytes maxL ret n0 (InvH Z a0 EL s v') (Safe Z EL v') T' h' L' (cells + rm.cells) (slots + rm.slots) → Keep h h' ws → CHr Z EL v h v' h' → Q v' h' → Run p.tables e below P T' (mkF m pc' Ls (rest))) : Run p.tables e below P T (mkF m pc Ls stk) := by
  subst hp
  obtain ⟨hEL, hWv, ⟨k0, hS, hk0⟩, hC⟩ := X.inv
  have bk := backH (R := R) (p := p) (e := e) (below := below) (s := s) (args := args) (len := 3) (W := W) hM hWv wc wz hfr hlo hEL hC.1 (fun x q => (hsf x q).1)
  obtain ⟨r, _, ⟨T', L', k', n'⟩, -, X', hS2, hgr, ⟨Lc, hQ, l1, l2, l3, hC'⟩, kk⟩ := callSS X.1 X.hx (y := y) X.hown (mvT X.hZ w1) (mvT X.hZ w2) (mvT X.hZ wz) (mvT X.hZ wc) hy bk (g := mkF m pc Ls stk) rfl (by rw [X.hml]; exact hsz) (argsL := argsL) (rest := rest) (lenOf hpd hlen) hstk (by show 2 * 0 + _ ≤ _; omega) (hb X.hby hd) (fun _ _ => ⟨rfl, X.eT, hc, hs⟩)
  dsimp only [Pt.U, Pt.locs, Pt.cells, Pt.slots] at X' l1 l2 l3 kk hQ hS2 hgr hC'
  subst l1 l2 l3
  obtain ⟨⟨K, rfl, hQ⟩, N⟩ := hQ
  obtain ⟨X2, hS3, hZ2, ho2⟩ := rebS hS (show k0 ≤ T.heap.size by rw [X.eT]; exact hk0) X' hS2 hgr X.hZ X.hown
  exact Run.tr kk (q _ _ _ _ (X.reH X2 rfl K hS3 (Nat.le_refl _) hZ2 ho2 hC' (fun x q => (hsf x q).2) (X.fr.app N)) K hC' hQ)
theorem k_callPNF (X : WP p l e R s m args below meth c Z own mname bytes maxL ret n0 Inv Sf T h locs cells slots) {y : MethodName} {index W : Nat} {bytes' : ByteArray} {maxL' : Nat} {ret' : Option FieldType} {rm : Room} {ws : List Addr} {Q : Heap → Prop} {a : Addr} {argsL rest stk : List Value} {ps : List FieldType} {rt : Option FieldType} (hd : decode bytes pc = .ok (.invokespecial index, 3)) (w1 : (Cond.methodLink own index y).before a0 Z = true) (w2 : (Cond.instanceMethod y).before a0 Z = true) (wz : (Cond.initialized y.cls).before a0 Z = true) (wc : (Cond.code y bytes' maxL' ret').before a0 Z = true) (hy : y.cls ≠ "java/lang/invoke/MethodHandle" ∧ y.cls ≠ "java/lang/invoke/VarHandle") (hin : y.name = "<init>") (hrn : ret' = none) (hM : MetF l [] Z n0 y bytes' maxL' ret' rm (.ref a :: argsL).toArray h ws (fun r h' => r = none ∧ Q h')) (hstk : stk = argsL.reverse ++ .ref a :: rest) (hpd : parseMethodDescriptor y.desc = some ⟨ps, rt⟩) (hlen : argsL.length = ps.length) (hsz : Ls.size = maxL) (hfr : rm.frames + 1 ≤ R.frames) (hW : (rest.map fun v => v.category).sum ≤ W) (hlo : W + (maxL' + 11) + rm.locals ≤ R.locals) (hc : cells + rm.cells ≤ R.cells) (hs : slots + rm.slots ≤ R.slots) (hsf : ∀ x ∈ ws, Sf h x ∧ n0 ≤ x) (hp : pc + 3 = pc')
    (q : ∀ T' h' L', WP p l e R s m args below meth c Z own mname bytes maxL ret n0 Inv Sf T' h' L' (cells + rm.cells) (slots + rm.slots) → Keep h h' ws → Q h' → Run p.tables e below P T' (mkF m pc' Ls (rest))) : Run p.tables e below P T (mkF m pc Ls stk) := by
  subst hp
  have bk := backOf (R := R) (p := p) (e := e) (below := below) (args := args) (len := 3) (W := W) (Q := fun r h' L => (Keep h h' ws ∧ (fun r h' => r = none ∧ Q h') r h') ∧ Fr n0 L) hM X.hZ wc wz hfr hlo
  obtain ⟨r, _, ⟨T', L', k', n'⟩, -, X', ⟨Lc, hQ, l1, l2, l3⟩, kk⟩ := X.1.specialBack X.hx (y := y) hin X.hown (mvT X.hZ w1) (mvT X.hZ w2) (bytes := bytes') (maxL := maxL') (mvT X.hZ (hrn ▸ wc)) hy bk (g := mkF m pc Ls stk) rfl (by rw [X.hml]; exact hsz) (Steps.refl _) (a := a) (argsL := argsL) (rest := rest) (lenOf hpd hlen) hstk (by show 2 * 0 + _ ≤ _; omega) (hb X.hby hd) (fun _ _ => ⟨rfl, X.eT, hc, hs⟩)
  dsimp only [Pt.U, Pt.locs, Pt.cells, Pt.slots] at X' l1 l2 l3 kk hQ
  subst l1 l2 l3
  obtain ⟨⟨K, rfl, hQ⟩, N⟩ := hQ
  exact Run.tr kk (q _ _ _ (X.mv X' rfl K hsf (X.fr.app N)) K hQ)
theorem k_callPNH {EL : List (String × Nat)} {v : Vm} (X : WP p l e R (s.setVm v) m args below meth c Z own mname bytes maxL ret n0 (InvH Z a0 EL s v) (Safe Z EL v) T h locs cells slots) {y : MethodName} {index W : Nat} {bytes' : ByteArray} {maxL' : Nat} {ret' : Option FieldType} {rm : Room} {ws : List Addr} {Q : Vm → Heap → Prop} {a : Addr} {argsL rest stk : List Value} {ps : List FieldType} {rt : Option FieldType} (hd : decode bytes pc = .ok (.invokespecial index, 3)) (w1 : (Cond.methodLink own index y).before a0 Z = true) (w2 : (Cond.instanceMethod y).before a0 Z = true) (wz : (Cond.initialized y.cls).before a0 Z = true) (wc : (Cond.code y bytes' maxL' ret').before a0 Z = true) (hy : y.cls ≠ "java/lang/invoke/MethodHandle" ∧ y.cls ≠ "java/lang/invoke/VarHandle") (hin : y.name = "<init>") (hrn : ret' = none) (hM : MetH l [] Z EL n0 y bytes' maxL' ret' rm (.ref a :: argsL).toArray h ws (fun r v' h' => r = none ∧ Q v' h')) (hstk : stk = argsL.reverse ++ .ref a :: rest) (hpd : parseMethodDescriptor y.desc = some ⟨ps, rt⟩) (hlen : argsL.length = ps.length) (hsz : Ls.size = maxL) (hfr : rm.frames + 1 ≤ R.frames) (hW : (rest.map fun v => v.category).sum ≤ W) (hlo : W + (maxL' + 11) + rm.locals ≤ R.locals) (hc : cells + rm.cells ≤ R.cells) (hs : slots + rm.slots ≤ R.slots) (hsf : ∀ x ∈ ws, (x < h.size ∧ Safe Z EL v h x) ∧ n0 ≤ x) (hp : pc + 3 = pc')
    (q : ∀ v' T' h' L', WP p l e R (s.setVm v') m args below meth c Z own mname bytes maxL ret n0 (InvH Z a0 EL s v') (Safe Z EL v') T' h' L' (cells + rm.cells) (slots + rm.slots) → Keep h h' ws → CHr Z EL v h v' h' → Q v' h' → Run p.tables e below P T' (mkF m pc' Ls (rest))) : Run p.tables e below P T (mkF m pc Ls stk) := by
  subst hp
  obtain ⟨hEL, hWv, ⟨k0, hS, hk0⟩, hC⟩ := X.inv
  have bk := backH (R := R) (p := p) (e := e) (below := below) (s := s) (args := args) (len := 3) (W := W) hM hWv wc wz hfr hlo hEL hC.1 (fun x q => (hsf x q).1)
  obtain ⟨r, _, ⟨T', L', k', n'⟩, -, X', hS2, hgr, ⟨Lc, hQ, l1, l2, l3, hC'⟩, kk⟩ := X.1.specialBackS X.hx (y := y) hin X.hown (mvT X.hZ w1) (mvT X.hZ w2) (bytes := bytes') (maxL := maxL') (mvT X.hZ (hrn ▸ wc)) hy bk (g := mkF m pc Ls stk) rfl (by rw [X.hml]; exact hsz) (Steps.refl _) (a := a) (argsL := argsL) (rest := rest) (lenOf hpd hlen) hstk (by show 2 * 0 + _ ≤ _; omega) (hb X.hby hd) (fun _ _ => ⟨rfl, X.eT, hc, hs⟩)
  dsimp only [Pt.U, Pt.locs, Pt.cells, Pt.slots] at X' l1 l2 l3 kk hQ hS2 hgr hC'
  subst l1 l2 l3
  obtain ⟨⟨K, rfl, hQ⟩, N⟩ := hQ
  obtain ⟨X2, hS3, hZ2, ho2⟩ := rebS hS (show k0 ≤ T.heap.size by rw [X.eT]; exact hk0) X' hS2 hgr X.hZ X.hown
  exact Run.tr kk (q _ _ _ _ (X.reH X2 rfl K hS3 (Nat.le_refl _) hZ2 ho2 hC' (fun x q => (hsf x q).2) (X.fr.app N)) K hC' hQ)
theorem k_callVVF (X : WP p l e R s m args below meth c Z own mname bytes maxL ret n0 Inv Sf T h locs cells slots) {y : MethodName} {index W : Nat} {bytes' : ByteArray} {maxL' : Nat} {ret' : Option FieldType} {rm : Room} {ws : List Addr} {Q : Value → Heap → Prop} {a : Addr} {y0 : MethodName} {C : String} {argsL rest stk : List Value} {ps : List FieldType} {rt : Option FieldType} (hd : decode bytes pc = .ok (.invokevirtual index, 3)) (w1 : (Cond.methodLink own index y0).before a0 Z = true) (w2 : (Cond.declares y0).before a0 Z = true) (w3 : (Cond.selects C y0 y).before a0 Z = true) (w4 : (Cond.instanceMethod y).before a0 Z = true) (wz : (Cond.initialized y.cls).before a0 Z = true) (wc : (Cond.code y bytes' maxL' ret').before a0 Z = true) (hy : y0.cls ≠ "java/lang/invoke/MethodHandle" ∧ y0.cls ≠ "java/lang/invoke/VarHandle") (hnf : NotFace s y0) (E : Exa Z h a C) (hM : MetF l [] Z n0 y bytes' maxL' ret' rm (.ref a :: argsL).toArray h ws (fun r h' => ∃ w, r = some w ∧ Q w h')) (hstk : stk = argsL.reverse ++ .ref a :: rest) (hpd : parseMethodDescriptor y0.desc = some ⟨ps, rt⟩) (hlen : argsL.length = ps.length) (hsz : Ls.size = maxL) (hfr : rm.frames + 1 ≤ R.frames) (hW : (rest.map fun v => v.category).sum ≤ W) (hlo : W + (maxL' + 11) + rm.locals ≤ R.locals) (hc : cells + rm.cells ≤ R.cells) (hs : slots + rm.slots ≤ R.slots) (hsf : ∀ x ∈ ws, Sf h x ∧ n0 ≤ x) (hp : pc + 3 = pc')
    (q : ∀ w T' h' L', WP p l e R s m args below meth c Z own mname bytes maxL ret n0 Inv Sf T' h' L' (cells + rm.cells) (slots + rm.slots) → Keep h h' ws → Q w h' → Run p.tables e below P T' (mkF m pc' Ls (w :: rest))) : Run p.tables e below P T (mkF m pc Ls stk) := by
  subst hp
  obtain ⟨cq, kq, qa, qb, qc⟩ := isOf (T := T) X.hZ X.eT E
  have bk := backOf (R := R) (p := p) (e := e) (below := below) (args := args) (len := 3) (W := W) (Q := fun r h' L => (Keep h h' ws ∧ (fun r h' => ∃ w, r = some w ∧ Q w h') r h') ∧ Fr n0 L) hM X.hZ wc wz hfr hlo
  obtain ⟨r, _, ⟨T', L', k', n'⟩, -, X', ⟨Lc, hQ, l1, l2, l3⟩, kk⟩ := X.1.virtualBack X.hx (y := y0) (z := y) X.hown (mvT X.hZ w1) (mvT X.hZ w2) hnf (mvT X.hZ w3) (mvT X.hZ w4) hy bk qa qc (g := mkF m pc Ls stk) rfl (by rw [X.hml]; exact hsz) (Steps.refl _) (argsL := argsL) (rest := rest) (lenOf hpd hlen) hstk (by show 2 * 0 + _ ≤ _; omega) (hb X.hby hd) (fun _ _ => ⟨rfl, X.eT, hc, hs⟩)
  dsimp only [Pt.U, Pt.locs, Pt.cells, Pt.slots] at X' l1 l2 l3 kk hQ
  subst l1 l2 l3
  obtain ⟨⟨K, w, rfl, hQ⟩, N⟩ := hQ
  exact Run.tr kk (q _ _ _ _ (X.mv X' rfl K hsf (X.fr.app N)) K hQ)
theorem k_callVNF (X : WP p l e R s m args below meth c Z own mname bytes maxL ret n0 Inv Sf T h locs cells slots) {y : MethodName} {index W : Nat} {bytes' : ByteArray} {maxL' : Nat} {ret' : Option FieldType} {rm : Room} {ws : List Addr} {Q : Heap → Prop} {a : Addr} {y0 : MethodName} {C : String} {argsL rest stk : List Value} {ps : List FieldType} {rt : Option FieldType} (hd : decode bytes pc = .ok (.invokevirtual index, 3)) (w1 : (Cond.methodLink own index y0).before a0 Z = true) (w2 : (Cond.declares y0).before a0 Z = true) (w3 : (Cond.selects C y0 y).before a0 Z = true) (w4 : (Cond.instanceMethod y).before a0 Z = true) (wz : (Cond.initialized y.cls).before a0 Z = true) (wc : (Cond.code y bytes' maxL' ret').before a0 Z = true) (hy : y0.cls ≠ "java/lang/invoke/MethodHandle" ∧ y0.cls ≠ "java/lang/invoke/VarHandle") (hnf : NotFace s y0) (E : Exa Z h a C) (hM : MetF l [] Z n0 y bytes' maxL' ret' rm (.ref a :: argsL).toArray h ws (fun r h' => r = none ∧ Q h')) (hstk : stk = argsL.reverse ++ .ref a :: rest) (hpd : parseMethodDescriptor y0.desc = some ⟨ps, rt⟩) (hlen : argsL.length = ps.length) (hsz : Ls.size = maxL) (hfr : rm.frames + 1 ≤ R.frames) (hW : (rest.map fun v => v.category).sum ≤ W) (hlo : W + (maxL' + 11) + rm.locals ≤ R.locals) (hc : cells + rm.cells ≤ R.cells) (hs : slots + rm.slots ≤ R.slots) (hsf : ∀ x ∈ ws, Sf h x ∧ n0 ≤ x) (hp : pc + 3 = pc')
    (q : ∀ T' h' L', WP p l e R s m args below meth c Z own mname bytes maxL ret n0 Inv Sf T' h' L' (cells + rm.cells) (slots + rm.slots) → Keep h h' ws → Q h' → Run p.tables e below P T' (mkF m pc' Ls (rest))) : Run p.tables e below P T (mkF m pc Ls stk) := by
  subst hp
  obtain ⟨cq, kq, qa, qb, qc⟩ := isOf (T := T) X.hZ X.eT E
  have bk := backOf (R := R) (p := p) (e := e) (below := below) (args := args) (len := 3) (W := W) (Q := fun r h' L => (Keep h h' ws ∧ (fun r h' => r = none ∧ Q h') r h') ∧ Fr n0 L) hM X.hZ wc wz hfr hlo
  obtain ⟨r, _, ⟨T', L', k', n'⟩, -, X', ⟨Lc, hQ, l1, l2, l3⟩, kk⟩ := X.1.virtualBack X.hx (y := y0) (z := y) X.hown (mvT X.hZ w1) (mvT X.hZ w2) hnf (mvT X.hZ w3) (mvT X.hZ w4) hy bk qa qc (g := mkF m pc Ls stk) rfl (by rw [X.hml]; exact hsz) (Steps.refl _) (argsL := argsL) (rest := rest) (lenOf hpd hlen) hstk (by show 2 * 0 + _ ≤ _; omega) (hb X.hby hd) (fun _ _ => ⟨rfl, X.eT, hc, hs⟩)
  dsimp only [Pt.U, Pt.locs, Pt.cells, Pt.slots] at X' l1 l2 l3 kk hQ
  subst l1 l2 l3
  obtain ⟨⟨K, rfl, hQ⟩, N⟩ := hQ
  exact Run.tr kk (q _ _ _ (X.mv X' rfl K hsf (X.fr.app N)) K hQ)
theorem k_callVVH {EL : List (String × Nat)} {v : Vm} (X : WP p l e R (s.setVm v) m args below meth c Z own mname bytes maxL ret n0 (InvH Z a0 EL s v) (Safe Z EL v) T h locs cells slots) {y : MethodName} {index W : Nat} {bytes' : ByteArray} {maxL' : Nat} {ret' : Option FieldType} {rm : Room} {ws : List Addr} {Q : Value → Vm → Heap → Prop} {a : Addr} {y0 : MethodName} {C : String} {argsL rest stk : List Value} {ps : List FieldType} {rt : Option FieldType} (hd : decode bytes pc = .ok (.invokevirtual index, 3)) (w1 : (Cond.methodLink own index y0).before a0 Z = true) (w2 : (Cond.declares y0).before a0 Z = true) (w3 : (Cond.selects C y0 y).before a0 Z = true) (w4 : (Cond.instanceMethod y).before a0 Z = true) (wz : (Cond.initialized y.cls).before a0 Z = true) (wc : (Cond.code y bytes' maxL' ret').before a0 Z = true) (hy : y0.cls ≠ "java/lang/invoke/MethodHandle" ∧ y0.cls ≠ "java/lang/invoke/VarHandle") (hnf : NotFace (s.setVm v) y0) (E : Exa Z h a C) (hM : MetH l [] Z EL n0 y bytes' maxL' ret' rm (.ref a :: argsL).toArray h ws (fun r v' h' => ∃ w, r = some w ∧ Q w v' h')) (hstk : stk = argsL.reverse ++ .ref a :: rest) (hpd : parseMethodDescriptor y0.desc = some ⟨ps, rt⟩) (hlen : argsL.length = ps.length) (hsz : Ls.size = maxL) (hfr : rm.frames + 1 ≤ R.frames) (hW : (rest.map fun v => v.category).sum ≤ W) (hlo : W + (maxL' + 11) + rm.locals ≤ R.locals) (hc : cells + rm.cells ≤ R.cells) (hs : slots + rm.slots ≤ R.slots) (hsf : ∀ x ∈ ws, (x < h.size ∧ Safe Z EL v h x) ∧ n0 ≤ x) (hp : pc + 3 = pc')
    (q : ∀ w v' T' h' L', WP p l e R (s.setVm v') m args below meth c Z own mname bytes maxL ret n0 (InvH Z a0 EL s v') (Safe Z EL v') T' h' L' (cells + rm.cells) (slots + rm.slots) → Keep h h' ws → CHr Z EL v h v' h' → Q w v' h' → Run p.tables e below P T' (mkF m pc' Ls (w :: rest))) : Run p.tables e below P T (mkF m pc Ls stk) := by
  subst hp
  obtain ⟨cq, kq, qa, qb, qc⟩ := isOf (T := T) X.hZ X.eT E
  obtain ⟨hEL, hWv, ⟨k0, hS, hk0⟩, hC⟩ := X.inv
  have bk := backH (R := R) (p := p) (e := e) (below := below) (s := s) (args := args) (len := 3) (W := W) hM hWv wc wz hfr hlo hEL hC.1 (fun x q => (hsf x q).1)
  obtain ⟨r, _, ⟨T', L', k', n'⟩, -, X', hS2, hgr, ⟨Lc, hQ, l1, l2, l3, hC'⟩, kk⟩ := X.1.virtualBackS X.hx (y := y0) (z := y) X.hown (mvT X.hZ w1) (mvT X.hZ w2) hnf (mvT X.hZ w3) (mvT X.hZ w4) hy bk qa qc (g := mkF m pc Ls stk) rfl (by rw [X.hml]; exact hsz) (Steps.refl _) (argsL := argsL) (rest := rest) (lenOf hpd hlen) hstk (by show 2 * 0 + _ ≤ _; omega) (hb X.hby hd) (fun _ _ => ⟨rfl, X.eT, hc, hs⟩)
  dsimp only [Pt.U, Pt.locs, Pt.cells, Pt.slots] at X' l1 l2 l3 kk hQ hS2 hgr hC'
  subst l1 l2 l3
  obtain ⟨⟨K, w, rfl, hQ⟩, N⟩ := hQ
  obtain ⟨X2, hS3, hZ2, ho2⟩ := rebS hS (show k0 ≤ T.heap.size by rw [X.eT]; exact hk0) X' hS2 hgr X.hZ X.hown
  exact Run.tr kk (q _ _ _ _ _ (X.reH X2 rfl K hS3 (Nat.le_refl _) hZ2 ho2 hC' (fun x q => (hsf x q).2) (X.fr.app N)) K hC' hQ)
theorem k_callVNH {EL : List (String × Nat)} {v : Vm} (X : WP p l e R (s.setVm v) m args below meth c Z own mname bytes maxL ret n0 (InvH Z a0 EL s v) (Safe Z EL v) T h locs cells slots) {y : MethodName} {index W : Nat} {bytes' : ByteArray} {maxL' : Nat} {ret' : Option FieldType} {rm : Room} {ws : List Addr} {Q : Vm → Heap → Prop} {a : Addr} {y0 : MethodName} {C : String} {argsL rest stk : List Value} {ps : List FieldType} {rt : Option FieldType} (hd : decode bytes pc = .ok (.invokevirtual index, 3)) (w1 : (Cond.methodLink own index y0).before a0 Z = true) (w2 : (Cond.declares y0).before a0 Z = true) (w3 : (Cond.selects C y0 y).before a0 Z = true) (w4 : (Cond.instanceMethod y).before a0 Z = true) (wz : (Cond.initialized y.cls).before a0 Z = true) (wc : (Cond.code y bytes' maxL' ret').before a0 Z = true) (hy : y0.cls ≠ "java/lang/invoke/MethodHandle" ∧ y0.cls ≠ "java/lang/invoke/VarHandle") (hnf : NotFace (s.setVm v) y0) (E : Exa Z h a C) (hM : MetH l [] Z EL n0 y bytes' maxL' ret' rm (.ref a :: argsL).toArray h ws (fun r v' h' => r = none ∧ Q v' h')) (hstk : stk = argsL.reverse ++ .ref a :: rest) (hpd : parseMethodDescriptor y0.desc = some ⟨ps, rt⟩) (hlen : argsL.length = ps.length) (hsz : Ls.size = maxL) (hfr : rm.frames + 1 ≤ R.frames) (hW : (rest.map fun v => v.category).sum ≤ W) (hlo : W + (maxL' + 11) + rm.locals ≤ R.locals) (hc : cells + rm.cells ≤ R.cells) (hs : slots + rm.slots ≤ R.slots) (hsf : ∀ x ∈ ws, (x < h.size ∧ Safe Z EL v h x) ∧ n0 ≤ x) (hp : pc + 3 = pc')
    (q : ∀ v' T' h' L', WP p l e R (s.setVm v') m args below meth c Z own mname bytes maxL ret n0 (InvH Z a0 EL s v') (Safe Z EL v') T' h' L' (cells + rm.cells) (slots + rm.slots) → Keep h h' ws → CHr Z EL v h v' h' → Q v' h' → Run p.tables e below P T' (mkF m pc' Ls (rest))) : Run p.tables e below P T (mkF m pc Ls stk) := by
  subst hp
  obtain ⟨cq, kq, qa, qb, qc⟩ := isOf (T := T) X.hZ X.eT E
  obtain ⟨hEL, hWv, ⟨k0, hS, hk0⟩, hC⟩ := X.inv
  have bk := backH (R := R) (p := p) (e := e) (below := below) (s := s) (args := args) (len := 3) (W := W) hM hWv wc wz hfr hlo hEL hC.1 (fun x q => (hsf x q).1)
  obtain ⟨r, _, ⟨T', L', k', n'⟩, -, X', hS2, hgr, ⟨Lc, hQ, l1, l2, l3, hC'⟩, kk⟩ := X.1.virtualBackS X.hx (y := y0) (z := y) X.hown (mvT X.hZ w1) (mvT X.hZ w2) hnf (mvT X.hZ w3) (mvT X.hZ w4) hy bk qa qc (g := mkF m pc Ls stk) rfl (by rw [X.hml]; exact hsz) (Steps.refl _) (argsL := argsL) (rest := rest) (lenOf hpd hlen) hstk (by show 2 * 0 + _ ≤ _; omega) (hb X.hby hd) (fun _ _ => ⟨rfl, X.eT, hc, hs⟩)
  dsimp only [Pt.U, Pt.locs, Pt.cells, Pt.slots] at X' l1 l2 l3 kk hQ hS2 hgr hC'
  subst l1 l2 l3
  obtain ⟨⟨K, rfl, hQ⟩, N⟩ := hQ
  obtain ⟨X2, hS3, hZ2, ho2⟩ := rebS hS (show k0 ≤ T.heap.size by rw [X.eT]; exact hk0) X' hS2 hgr X.hZ X.hown
  exact Run.tr kk (q _ _ _ _ (X.reH X2 rfl K hS3 (Nat.le_refl _) hZ2 ho2 hC' (fun x q => (hsf x q).2) (X.fr.app N)) K hC' hQ)
theorem k_callIVF (X : WP p l e R s m args below meth c Z own mname bytes maxL ret n0 Inv Sf T h locs cells slots) {y : MethodName} {index W : Nat} {bytes' : ByteArray} {maxL' : Nat} {ret' : Option FieldType} {rm : Room} {ws : List Addr} {Q : Value → Heap → Prop} {a : Addr} {y0 : MethodName} {C : String} {count : Nat} {argsL rest stk : List Value} {ps : List FieldType} {rt : Option FieldType} (hd : decode bytes pc = .ok (.invokeinterface index count, 5)) (w1 : (Cond.methodLink own index y0).before args s = true) (w2 : (Cond.declares y0).before args s = true) (w5 : (Cond.interfaceMethod y0.cls y0.cls y0.name y0.desc).before args s = true) (w3 : (Cond.selects C y0 y).before args s = true) (w4 : (Cond.instanceMethod y).before args s = true) (w6 : (Cond.publicMethod y).before args s = true) (w7 : (Cond.unhidden C y0.name y0.desc).before args s = true) (w8 : (Cond.castable C y0.cls).before args s = true) (wz : (Cond.initialized y.cls).before a0 Z = true) (wc : (Cond.code y bytes' maxL' ret').before a0 Z = true) (hy : y0.cls ≠ "java/lang/invoke/MethodHandle" ∧ y0.cls ≠ "java/lang/invoke/VarHandle") (E : Exa Z h a C) (hM : MetF l [] Z n0 y bytes' maxL' ret' rm (.ref a :: argsL).toArray h ws (fun r h' => ∃ w, r = some w ∧ Q w h')) (hstk : stk = argsL.reverse ++ .ref a :: rest) (hpd : parseMethodDescriptor y0.desc = some ⟨ps, rt⟩) (hlen : argsL.length = ps.length) (hsz : Ls.size = maxL) (hfr : rm.frames + 1 ≤ R.frames) (hW : (rest.map fun v => v.category).sum ≤ W) (hlo : W + (maxL' + 11) + rm.locals ≤ R.locals) (hc : cells + rm.cells ≤ R.cells) (hs : slots + rm.slots ≤ R.slots) (hsf : ∀ x ∈ ws, Sf h x ∧ n0 ≤ x) (hp : pc + 5 = pc')
    (q : ∀ w T' h' L', WP p l e R s m args below meth c Z own mname bytes maxL ret n0 Inv Sf T' h' L' (cells + rm.cells) (slots + rm.slots) → Keep h h' ws → Q w h' → Run p.tables e below P T' (mkF m pc' Ls (w :: rest))) : Run p.tables e below P T (mkF m pc Ls stk) := by
  subst hp
  obtain ⟨cq, kq, qa, qb, qc⟩ := isOf (T := T) X.hZ X.eT E
  have bk := backOf (R := R) (p := p) (e := e) (below := below) (args := args) (len := 5) (W := W) (Q := fun r h' L => (Keep h h' ws ∧ (fun r h' => ∃ w, r = some w ∧ Q w h') r h') ∧ Fr n0 L) hM X.hZ wc wz hfr hlo
  obtain ⟨r, _, ⟨T', L', k', n'⟩, -, X', ⟨Lc, hQ, l1, l2, l3⟩, kk⟩ := X.1.interfaceBack X.hx (xi := y0) (y := y) X.hown w1 w2 w5 w3 w4 w6 w7 w8 hy bk qa qb qc (g := mkF m pc Ls stk) rfl (by rw [X.hml]; exact hsz) (Steps.refl _) (argsL := argsL) (rest := rest) (lenOf hpd hlen) hstk (by show 2 * 0 + _ ≤ _; omega) (hb X.hby hd) (fun _ _ => ⟨rfl, X.eT, hc, hs⟩)
  dsimp only [Pt.U, Pt.locs, Pt.cells, Pt.slots] at X' l1 l2 l3 kk hQ
  subst l1 l2 l3
  obtain ⟨⟨K, w, rfl, hQ⟩, N⟩ := hQ
  exact Run.tr kk (q _ _ _ _ (X.mv X' rfl K hsf (X.fr.app N)) K hQ)
theorem k_callINF (X : WP p l e R s m args below meth c Z own mname bytes maxL ret n0 Inv Sf T h locs cells slots) {y : MethodName} {index W : Nat} {bytes' : ByteArray} {maxL' : Nat} {ret' : Option FieldType} {rm : Room} {ws : List Addr} {Q : Heap → Prop} {a : Addr} {y0 : MethodName} {C : String} {count : Nat} {argsL rest stk : List Value} {ps : List FieldType} {rt : Option FieldType} (hd : decode bytes pc = .ok (.invokeinterface index count, 5)) (w1 : (Cond.methodLink own index y0).before args s = true) (w2 : (Cond.declares y0).before args s = true) (w5 : (Cond.interfaceMethod y0.cls y0.cls y0.name y0.desc).before args s = true) (w3 : (Cond.selects C y0 y).before args s = true) (w4 : (Cond.instanceMethod y).before args s = true) (w6 : (Cond.publicMethod y).before args s = true) (w7 : (Cond.unhidden C y0.name y0.desc).before args s = true) (w8 : (Cond.castable C y0.cls).before args s = true) (wz : (Cond.initialized y.cls).before a0 Z = true) (wc : (Cond.code y bytes' maxL' ret').before a0 Z = true) (hy : y0.cls ≠ "java/lang/invoke/MethodHandle" ∧ y0.cls ≠ "java/lang/invoke/VarHandle") (E : Exa Z h a C) (hM : MetF l [] Z n0 y bytes' maxL' ret' rm (.ref a :: argsL).toArray h ws (fun r h' => r = none ∧ Q h')) (hstk : stk = argsL.reverse ++ .ref a :: rest) (hpd : parseMethodDescriptor y0.desc = some ⟨ps, rt⟩) (hlen : argsL.length = ps.length) (hsz : Ls.size = maxL) (hfr : rm.frames + 1 ≤ R.frames) (hW : (rest.map fun v => v.category).sum ≤ W) (hlo : W + (maxL' + 11) + rm.locals ≤ R.locals) (hc : cells + rm.cells ≤ R.cells) (hs : slots + rm.slots ≤ R.slots) (hsf : ∀ x ∈ ws, Sf h x ∧ n0 ≤ x) (hp : pc + 5 = pc')
    (q : ∀ T' h' L', WP p l e R s m args below meth c Z own mname bytes maxL ret n0 Inv Sf T' h' L' (cells + rm.cells) (slots + rm.slots) → Keep h h' ws → Q h' → Run p.tables e below P T' (mkF m pc' Ls (rest))) : Run p.tables e below P T (mkF m pc Ls stk) := by
  subst hp
  obtain ⟨cq, kq, qa, qb, qc⟩ := isOf (T := T) X.hZ X.eT E
  have bk := backOf (R := R) (p := p) (e := e) (below := below) (args := args) (len := 5) (W := W) (Q := fun r h' L => (Keep h h' ws ∧ (fun r h' => r = none ∧ Q h') r h') ∧ Fr n0 L) hM X.hZ wc wz hfr hlo
  obtain ⟨r, _, ⟨T', L', k', n'⟩, -, X', ⟨Lc, hQ, l1, l2, l3⟩, kk⟩ := X.1.interfaceBack X.hx (xi := y0) (y := y) X.hown w1 w2 w5 w3 w4 w6 w7 w8 hy bk qa qb qc (g := mkF m pc Ls stk) rfl (by rw [X.hml]; exact hsz) (Steps.refl _) (argsL := argsL) (rest := rest) (lenOf hpd hlen) hstk (by show 2 * 0 + _ ≤ _; omega) (hb X.hby hd) (fun _ _ => ⟨rfl, X.eT, hc, hs⟩)
  dsimp only [Pt.U, Pt.locs, Pt.cells, Pt.slots] at X' l1 l2 l3 kk hQ
  subst l1 l2 l3
  obtain ⟨⟨K, rfl, hQ⟩, N⟩ := hQ
  exact Run.tr kk (q _ _ _ (X.mv X' rfl K hsf (X.fr.app N)) K hQ)
end Kit
end Own
end Jvm.Pilot.@@N@@
namespace Jvm.Pilot.@@N@@
open Jvm Jvm.ClassFile Sem Op Lib Jvm.Free Jvm.Stand Jvm.LawKit Jvm.RoadKit Bundle Jvm.Pilot.@@N@@.Jvm.D
section OwnProof
open Own
theorem own_nat {i : Nat} (h : i < 2147483648) : (Int32.ofNat i).toInt = (i : Int) := by
  rw [Int32.toInt_ofNat', show Int32.size = 4294967296 from rfl]; exact Int.bmod_eq_of_le (by omega) (by omega)
theorem own_nz {n : Nat} (h0 : 0 < n) (h1 : n < 2147483648) : ¬ Int32.ofNat n = 0 := fun q => by
  have e := congrArg Int32.toInt q
  rw [own_nat h1, show (0 : Int32).toInt = 0 from by decide] at e
  omega
theorem own_clamp {i : Nat} (h : i < 2147483648) : (Int32.ofNat i).toNatClampNeg = i := by
  show (Int32.ofNat i).toInt.toNat = i
  rw [own_nat h]; rfl
theorem own_nn {i : Nat} (h : i < 2147483648) : ¬ (Int32.ofNat i < 0) := by
  rw [Int32.lt_iff_toInt_lt, own_nat h]; show ¬ ((i : Int) < 0); omega
theorem own_lt {i n : Nat} (h : i < n) (hn : n < 2147483648) : Int32.ofNat i < Int32.ofNat n := by
  rw [Int32.lt_iff_toInt_lt, own_nat (by omega), own_nat hn]; omega
theorem own_succ (i : Nat) : Int32.ofNat i + Int32.ofInt 1 = Int32.ofNat (i + 1) := by
  rw [Int32.ofNat_add]; rfl
theorem own_shl1 {i : Nat} (h : i < 1073741824) : Int32.ofNat i <<< ((1 : Int32) &&& 31) = Int32.ofNat (2 * i) := by
  apply Int32.toInt_inj.mp
  have q := c_ishl (Int32.ofNat i) 1 1 (by decide)
  rw [own_nat (by omega)] at q
  rw [own_nat (by omega)]
  have := rng32 (Int32.ofNat i <<< ((1 : Int32) &&& 31))
  omega
theorem own_i2b (x : Int32) : nar .byte (x.toInt8.toInt32) = x.toInt8.toInt32 := by
  show x.toInt8.toInt32.toInt8.toInt32 = x.toInt8.toInt32
  rw [Int8.toInt8_toInt32]
def own_lo (c : Int32) : Value := .int c.toInt8.toInt32
/-- the bytes of a compact String -/
def own_lat (cs : List Int32) : List Value := cs.map own_lo
theorem own_latlen (cs : List Int32) : (own_lat cs).length = cs.length := by simp [own_lat]
theorem own_getc (cs : List Int32) (i : Nat) : (cs.map Value.int).getD i (.int 0) = .int (cs.getD i 0) := by
  simp only [List.getD_eq_getElem?_getD, List.getElem?_map]
  cases cs[i]? <;> rfl
theorem own_getc' (cs : List Int32) {i : Nat} (h : i < 2147483648) : (cs.map Value.int).getD (Int32.ofNat i).toNatClampNeg (.int 0) = .int (cs.getD i 0) := by
  rw [own_clamp h]; exact own_getc cs i
theorem own_turn (cs : List Int32) (vs : List Value) (i : Nat) (hi : i < cs.length) (hv : vs.length = cs.length) : ((cs.take i).map own_lo ++ vs.drop i).set i (.int (cs.getD i 0).toInt8.toInt32) = (cs.take (i + 1)).map own_lo ++ vs.drop (i + 1) := by
  apply List.ext_getElem?
  intro j
  by_cases hj : j = i
  · subst hj
    have h1 : j < ((cs.take j).map own_lo ++ vs.drop j).length := by simp; omega
    rw [List.getElem?_set_self h1, List.getElem?_append_left (by simp; omega)]
    simp [hi, own_lo, List.getD_eq_getElem?_getD]
  · rw [List.getElem?_set_ne (by omega)]
    by_cases hlt : j < i
    · rw [List.getElem?_append_left (by simp; omega), List.getElem?_append_left (by simp; omega)]
      simp [hlt, show j < i + 1 by omega]
    · rw [List.getElem?_append_right (by simp; omega), List.getElem?_append_right (by simp; omega)]
      simp only [List.length_map, List.length_take, List.getElem?_drop]
      congr 1; omega
theorem own_store {x0 x1 x2 x3 x4 x5 s6 : Slot} {v : Int32} (h : One s6) (h5 : ∃ w : Int32, x5 = .val (.int w)) : storeLocals #[x0, x1, x2, x3, x4, x5, s6] 6 (.int v) = some #[x0, x1, x2, x3, x4, x5, .val (.int v)] := by
  obtain ⟨w5, rfl⟩ := h5
  rcases h with rfl | ⟨w, rfl, hw⟩
  · rfl
  · cases w <;> first | rfl | (simp [Value.category] at hw)
/-- the first place of a sign above 255, or the length -/
def own_fst : List Int32 → Nat
  | [] => 0
  | c :: cs => if 255 < c then 0 else own_fst cs + 1
theorem own_fst_le : ∀ cs : List Int32, own_fst cs ≤ cs.length
  | [] => Nat.le_refl _
  | c :: cs => by
    unfold own_fst; split
    · simp
    · have := own_fst_le cs; simp; omega
theorem own_fst_lo : ∀ (cs : List Int32) (i : Nat), i < own_fst cs → ¬ 255 < cs.getD i 0
  | [], i, h => by simp [own_fst] at h
  | c :: cs, i, h => by
    unfold own_fst at h; split at h
    · omega
    · rename_i hc
      cases i with
      | zero => simpa using hc
      | succ i => simpa using own_fst_lo cs i (by omega)
theorem own_fst_hi : ∀ (cs : List Int32), own_fst cs < cs.length → 255 < cs.getD (own_fst cs) 0
  | [], h => by simp at h
  | c :: cs, h => by
    unfold own_fst at h ⊢; split
    · rename_i hc; simpa using hc
    · rename_i hc
      rw [if_neg hc] at h
      simpa using own_fst_hi cs (by simpa using h)
theorem own_fst_all : ∀ (cs : List Int32), (∀ c ∈ cs, ¬ 255 < c) → own_fst cs = cs.length
  | [], _ => rfl
  | c :: cs, h => by
    unfold own_fst
    rw [if_neg (h c (by simp)), own_fst_all cs fun x hx => h x (by simp [hx])]; simp
theorem own_rng {Z : State} {h : Heap} {b : Addr} {kb : ClassId} {z : Int32} {cs : List Int32} (A : Arv Z h b kb .char z (cs.map Value.int) (.int 0)) (hz : z = Int32.ofNat cs.length) (hn : cs.length < 2147483648) : ∀ i, i < cs.length → ¬ cs.getD i 0 < 0 ∧ ¬ 65535 < cs.getD i 0 := by
  intro i hi
  obtain ⟨cl, -, -, S, -, -, Gq⟩ := A
  have q := Gq i (by rw [S, hz, own_clamp hn]; exact hi)
  rw [own_getc] at q
  exact rng_char q
theorem own_and255 (x : Int32) : ¬ 255 < x &&& 255 := by
  have q := (c_and x 255 (by decide)).2
  rw [Int32.lt_iff_toInt_lt]; show ¬ ((255 : Int) < _); exact Int.not_lt.mpr q
theorem own_al0 : ∀ c ∈ ([] : List Int32), ¬ 255 < c := fun _ q => nomatch q
theorem own_alS {c : Int32} {L : List Int32} (q : ¬ 255 < c) (r : ∀ x ∈ L, ¬ 255 < x) : ∀ x ∈ c :: L, ¬ 255 < x := fun x z => (List.mem_cons.mp z).elim (fun u => u ▸ q) (r x)
def own_hi (c : Int32) : Value := .int (c >>> ((8 : Int32) &&& 31)).toInt8.toInt32
/-- the bytes of a String that is not compact -/
def own_u16 : List Int32 → List Value
  | [] => []
  | c :: cs => own_lo c :: own_hi c :: own_u16 cs
theorem own_u16len : ∀ cs : List Int32, (own_u16 cs).length = 2 * cs.length
  | [] => rfl
  | c :: cs => by simp [own_u16, own_u16len cs]; omega
theorem own_u16lo : ∀ (cs : List Int32) (j : Nat) (d : Value), j < cs.length → (own_u16 cs).getD (2 * j) d = own_lo (cs.getD j 0)
  | [], j, d, h => by simp at h
  | c :: cs, 0, d, h => by simp [own_u16]
  | c :: cs, j + 1, d, h => by
    have e : 2 * (j + 1) = 2 * j + 1 + 1 := by omega
    rw [e]; simpa [own_u16] using own_u16lo cs j d (by simpa using h)
theorem own_u16hi : ∀ (cs : List Int32) (j : Nat) (d : Value), j < cs.length → (own_u16 cs).getD (2 * j + 1) d = own_hi (cs.getD j 0)
  | [], j, d, h => by simp at h
  | c :: cs, 0, d, h => by simp [own_u16]
  | c :: cs, j + 1, d, h => by
    have e : 2 * (j + 1) + 1 = 2 * j + 1 + 1 + 1 := by omega
    rw [e]; simpa [own_u16] using own_u16hi cs j d (by simpa using h)
theorem own_u16turn : ∀ (cs : List Int32) (i : Nat), i < cs.length → ((own_u16 (cs.take i) ++ List.replicate (2 * (cs.length - i)) (Value.int (0 : Int32))).set (2 * i) (own_lo (cs.getD i 0))).set (2 * i + 1) (own_hi (cs.getD i 0)) = own_u16 (cs.take (i + 1)) ++ List.replicate (2 * (cs.length - (i + 1))) (Value.int (0 : Int32))
  | [], i, h => by simp at h
  | c :: cs, 0, h => by
    have e : 2 * ((c :: cs).length - 0) = 2 * cs.length + 1 + 1 := by simp; omega
    rw [e]; simp [own_u16, List.replicate_succ]
  | c :: cs, i + 1, h => by
    have e : 2 * (i + 1) = 2 * i + 1 + 1 := by omega
    have e2 : (c :: cs).length - (i + 1) = cs.length - i := by simp
    have e3 : (c :: cs).length - (i + 1 + 1) = cs.length - (i + 1) := by simp
    have q := own_u16turn cs i (by simpa using h)
    rw [e, e2, e3]
    simpa [own_u16] using q
theorem own_u16l (cs : List Int32) (i : Nat) (h : i ≤ cs.length) : (own_u16 (cs.take i) ++ List.replicate (2 * (cs.length - i)) (Value.int (0 : Int32))).length = 2 * cs.length := by
  rw [List.length_append, own_u16len, List.length_take, List.length_replicate, Nat.min_eq_left h]; omega
theorem own_shr0 (x : Int32) : x >>> ((0 : Int32) &&& 31) = x := by
  apply Int32.toInt_inj.mp
  rw [c_ishr x 0 0 (by decide)]; simp
theorem own_shl0 (x : Int32) : x <<< ((0 : Int32) &&& 31) = x := by
  apply Int32.toInt_inj.mp
  have q := c_ishl x 0 0 (by decide)
  have h1 := rng32 x; have h2 := rng32 (x <<< ((0 : Int32) &&& 31))
  omega
theorem own_join {c : Int32} (h0 : ¬ c < 0) (h1 : ¬ 65535 < c) : (((c.toInt8.toInt32 &&& 255) ||| (((c >>> ((8 : Int32) &&& 31)).toInt8.toInt32 &&& 255) <<< ((8 : Int32) &&& 31))).toUInt32.toUInt16.toUInt32.toInt32) = c := by
  have k0 : 0 ≤ c.toInt := by rw [Int32.lt_iff_toInt_lt] at h0; exact Int.not_lt.mp h0
  have k1 : c.toInt ≤ 65535 := by rw [Int32.lt_iff_toInt_lt] at h1; exact Int.not_lt.mp h1
  have a1 := c_i2b c
  have a2 := c_mask c.toInt8.toInt32 255 8 (by decide) (by decide)
  have b0 := c_ishr c 8 8 (by decide)
  have b1 := c_i2b (c >>> ((8 : Int32) &&& 31))
  have b2 := c_mask (c >>> ((8 : Int32) &&& 31)).toInt8.toInt32 255 8 (by decide) (by decide)
  generalize (c >>> ((8 : Int32) &&& 31)).toInt8.toInt32 = y at b1 b2 ⊢
  generalize c.toInt8.toInt32 = x at a1 a2 ⊢
  have b3 := c_ishl (y &&& 255) 8 8 (by decide)
  have r3 := rng32 ((y &&& 255) <<< ((8 : Int32) &&& 31))
  have v3 : ((y &&& 255) <<< ((8 : Int32) &&& 31)).toInt = (y &&& 255).toInt * 256 := by omega
  have o := c_or' (x &&& 255) ((y &&& 255) <<< ((8 : Int32) &&& 31)) 8 (by decide) 256 (by decide) (by rw [v3]; omega) (by omega) (by omega)
  have r4 := rng32 ((x &&& 255) ||| ((y &&& 255) <<< ((8 : Int32) &&& 31)))
  have f := c_i2c ((x &&& 255) ||| ((y &&& 255) <<< ((8 : Int32) &&& 31)))
  apply Int32.toInt_inj.mp
  omega
theorem own_neg31 {n : Nat} (h0 : 0 < n) (h1 : n < 1073741824) : (((Int32.ofNat n - Int32.ofNat (2 * n)).toUInt32 >>> ((31 : Int32) &&& 31).toUInt32).toInt32) = 1 := by
  apply Int32.toInt_inj.mp
  rw [c_iushr _ 31 31 (by decide) (by decide)]
  have q := c_isub (Int32.ofNat n) (Int32.ofNat (2 * n))
  rw [own_nat (by omega), own_nat (by omega)] at q
  have r := rng32 (Int32.ofNat n - Int32.ofNat (2 * n))
  show _ = (1 : Int)
  omega
/-- what a String of these signs holds -/
def own_cod (cs : List Int32) (cd zz : Int32) (bs : List Value) : Prop := (own_fst cs = cs.length ∧ cd = 0 ∧ zz = Int32.ofNat cs.length ∧ bs = own_lat cs) ∨ (own_fst cs < cs.length ∧ cd = 1 ∧ zz = Int32.ofNat (2 * cs.length) ∧ bs = own_u16 cs)
theorem own_all_of_fst {cs : List Int32} (h : own_fst cs = cs.length) : ∀ c ∈ cs, ¬ 255 < c := fun c hc => by
  obtain ⟨i, hi, e⟩ := List.getElem_of_mem hc
  have q := own_fst_lo cs i (by omega)
  rw [List.getD_eq_getElem?_getD, List.getElem?_eq_getElem hi] at q
  rw [← e]; simpa using q
theorem own_i2c_id {c : Int32} (h0 : ¬ c < 0) (h1 : ¬ 65535 < c) : nar .char c = c := by
  have k0 : 0 ≤ c.toInt := by rw [Int32.lt_iff_toInt_lt] at h0; exact Int.not_lt.mp h0
  have k1 : c.toInt ≤ 65535 := by rw [Int32.lt_iff_toInt_lt] at h1; exact Int.not_lt.mp h1
  have f := c_i2c c
  apply Int32.toInt_inj.mp
  show (c.toUInt32.toUInt16.toUInt32.toInt32).toInt = _
  omega
theorem own_cod_len {cs : List Int32} {cd zz : Int32} {bs : List Value} (h : own_cod cs cd zz bs) (hn : cs.length < 1073741824) : zz >>> (cd &&& 31) = Int32.ofNat cs.length := by
  rcases h with ⟨-, rfl, rfl, rfl⟩ | ⟨-, rfl, rfl, rfl⟩
  · exact own_shr0 _
  · apply Int32.toInt_inj.mp
    rw [c_ishr _ 1 1 (by decide), own_nat (by omega), own_nat (by omega)]; omega
theorem own_shr1 {n : Nat} (hn : n < 1073741824) : Int32.ofNat (2 * n) >>> ((1 : Int32) &&& 31) = Int32.ofNat n := by
  apply Int32.toInt_inj.mp
  rw [c_ishr _ 1 1 (by decide), own_nat (by omega), own_nat (by omega)]; omega
theorem own_cod_cd {cs : List Int32} {cd zz : Int32} {bs : List Value} (h : own_cod cs cd zz bs) : cd = 0 ∨ cd = 1 := by
  rcases h with ⟨-, rfl, -⟩ | ⟨-, rfl, -⟩
  · exact Or.inl rfl
  · exact Or.inr rfl
theorem own_nar01 {cd : Int32} (h : cd = 0 ∨ cd = 1) : nar .byte cd = cd := by rcases h with rfl | rfl <;> decide
theorem own_latget (cs : List Int32) {i : Nat} (hi : i < cs.length) (h : i < 2147483648) : (own_lat cs).getD (Int32.ofNat i).toNatClampNeg (.int (0 : Int32)) = .int (cs.getD i 0).toInt8.toInt32 := by
  rw [own_clamp h, own_lat, List.getD_eq_getElem?_getD, List.getD_eq_getElem?_getD, List.getElem?_map, List.getElem?_eq_getElem hi]; rfl
theorem own_back8 {c : Int32} (h0 : ¬ c < 0) (h1 : ¬ 255 < c) : ((c.toInt8.toInt32 &&& 255).toUInt32.toUInt16.toUInt32.toInt32) = c := by
  rw [i2c_mask]
  have k0 : 0 ≤ c.toInt := by rw [Int32.lt_iff_toInt_lt] at h0; exact Int.not_lt.mp h0
  have k1 : c.toInt ≤ 255 := by rw [Int32.lt_iff_toInt_lt] at h1; exact Int.not_lt.mp h1
  have a1 := c_i2b c
  have a2 := c_mask c.toInt8.toInt32 255 8 (by decide) (by decide)
  apply Int32.toInt_inj.mp
  omega
theorem own_255 {c : Int32} (h : ¬ 255 < c) : ¬ 65535 < c := by
  intro q; apply h; rw [Int32.lt_iff_toInt_lt] at q ⊢
  have : (65535 : Int32).toInt = 65535 := by decide
  have : (255 : Int32).toInt = 255 := by decide
  omega
theorem own_lat_rng {cs : List Int32} (hf : own_fst cs = cs.length) {i : Nat} (hi : i < cs.length) : ¬ 255 < cs.getD i 0 := own_fst_lo cs i (by omega)
/-- 1 where they are one text, else 0 -/
def own_eqv (cs ds : List Int32) : Int32 := if cs = ds then 1 else 0
def own_li (cs : List Int32) : List Int32 := cs.map fun c => c.toInt8.toInt32
theorem own_li_eq (cs : List Int32) : own_lat cs = (own_li cs).map Value.int := by simp [own_lat, own_li, own_lo, Function.comp_def]
def own_ui : List Int32 → List Int32
  | [] => []
  | c :: cs => c.toInt8.toInt32 :: (c >>> ((8 : Int32) &&& 31)).toInt8.toInt32 :: own_ui cs
theorem own_ui_eq : ∀ cs : List Int32, own_u16 cs = (own_ui cs).map Value.int
  | [] => rfl
  | c :: cs => by simp [own_u16, own_ui, own_lo, own_hi, own_ui_eq cs]
theorem own_li_len (cs : List Int32) : (own_li cs).length = cs.length := by simp [own_li]
theorem own_ui_len : ∀ cs : List Int32, (own_ui cs).length = 2 * cs.length
  | [] => rfl
  | c :: cs => by simp [own_ui, own_ui_len cs]; omega
theorem own_li_inj : ∀ {cs ds : List Int32}, (∀ c ∈ cs, ¬ c < 0 ∧ ¬ 255 < c) → (∀ c ∈ ds, ¬ c < 0 ∧ ¬ 255 < c) → own_li cs = own_li ds → cs = ds
  | [], [], _, _, _ => rfl
  | [], d :: ds, _, _, h => by simp [own_li] at h
  | c :: cs, [], _, _, h => by simp [own_li] at h
  | c :: cs, d :: ds, hc, hd, h => by
    simp only [own_li, List.map_cons, List.cons.injEq] at h
    have q1 := own_back8 (hc c (by simp)).1 (hc c (by simp)).2
    have q2 := own_back8 (hd d (by simp)).1 (hd d (by simp)).2
    rw [h.1, q2] at q1
    rw [q1, own_li_inj (fun x hx => hc x (by simp [hx])) (fun x hx => hd x (by simp [hx])) h.2]
theorem own_ui_inj : ∀ {cs ds : List Int32}, (∀ c ∈ cs, ¬ c < 0 ∧ ¬ 65535 < c) → (∀ c ∈ ds, ¬ c < 0 ∧ ¬ 65535 < c) → own_ui cs = own_ui ds → cs = ds
  | [], [], _, _, _ => rfl
  | [], d :: ds, _, _, h => by simp [own_ui] at h
  | c :: cs, [], _, _, h => by simp [own_ui] at h
  | c :: cs, d :: ds, hc, hd, h => by
    simp only [own_ui, List.cons.injEq] at h
    have q1 := own_join (hc c (by simp)).1 (hc c (by simp)).2
    have q2 := own_join (hd d (by simp)).1 (hd d (by simp)).2
    rw [h.1, h.2.1, q2] at q1
    rw [q1, own_ui_inj (fun x hx => hc x (by simp [hx])) (fun x hx => hd x (by simp [hx])) h.2.2]
theorem own_ext (is js : List Int32) (hl : is.length = js.length) (h : ∀ i, i < is.length → is.getD i 0 = js.getD i 0) : is = js := by
  apply List.ext_getElem hl
  intro i h1 h2
  have q := h i h1
  simpa [List.getD_eq_getElem?_getD, h1, h2] using q
/-- all signs are chars -/
def own_chs (cs : List Int32) : Prop := ∀ c ∈ cs, ¬ c < 0 ∧ ¬ 65535 < c
theorem own_chs_at {cs : List Int32} (h : own_chs cs) {i : Nat} (hi : i < cs.length) : ¬ cs.getD i 0 < 0 ∧ ¬ 65535 < cs.getD i 0 := by
  rw [List.getD_eq_getElem?_getD, List.getElem?_eq_getElem hi]; exact h _ (List.getElem_mem hi)
theorem own_cod_eq {cs ds : List Int32} {cd zz ze : Int32} {bs be : List Value} {ib ie : List Int32} (h1 : own_cod cs cd zz bs) (h2 : own_cod ds cd ze be) (k1 : own_chs cs) (k2 : own_chs ds) (e1 : bs = ib.map Value.int) (e2 : be = ie.map Value.int) : own_eqv ib ie = own_eqv cs ds := by
  have inj : ∀ {x y : List Int32}, x.map Value.int = y.map Value.int → x = y := fun {x y} q => by
    have := congrArg (List.map fun v => match v with | Value.int z => z | _ => 0) q
    simpa [Function.comp_def] using this
  have key : ib = ie ↔ cs = ds := by
    rcases h1 with ⟨f1, rfl, -, rfl⟩ | ⟨f1, rfl, -, rfl⟩
    · rcases h2 with ⟨f2, -, -, rfl⟩ | ⟨f2, q, -⟩
      · rw [own_li_eq] at e1 e2
        have a1 := inj e1; have a2 := inj e2
        subst a1 a2
        exact ⟨own_li_inj (fun c hc => ⟨(k1 c hc).1, own_all_of_fst f1 c hc⟩) (fun c hc => ⟨(k2 c hc).1, own_all_of_fst f2 c hc⟩), fun q => by rw [q]⟩
      · exact absurd q (by decide)
    · rcases h2 with ⟨f2, q, -⟩ | ⟨f2, -, -, rfl⟩
      · exact absurd q (by decide)
      · rw [own_ui_eq] at e1 e2
        have a1 := inj e1; have a2 := inj e2
        subst a1 a2
        exact ⟨own_ui_inj k1 k2, fun q => by rw [q]⟩
  unfold own_eqv
  by_cases q : cs = ds
  · rw [if_pos q, if_pos (key.mpr q)]
  · rw [if_neg q, if_neg fun r => q (key.mp r)]
theorem own_cod_ne {cs ds : List Int32} {cd ce zz ze : Int32} {bs be : List Value} (h1 : own_cod cs cd zz bs) (h2 : own_cod ds ce ze be) (hne : ¬ cd = ce) : own_eqv cs ds = 0 := by
  unfold own_eqv
  rw [if_neg]
  intro q; subst q
  rcases h1 with ⟨f1, rfl, -⟩ | ⟨f1, rfl, -⟩ <;> rcases h2 with ⟨f2, rfl, -⟩ | ⟨f2, rfl, -⟩ <;> first | exact hne rfl | omega
theorem own_cod_ints {cs : List Int32} {cd zz : Int32} {bs : List Value} (h : own_cod cs cd zz bs) : ∃ ib : List Int32, bs = ib.map Value.int ∧ zz = Int32.ofNat ib.length ∧ ib.length ≤ 2 * cs.length := by
  rcases h with ⟨-, -, rfl, rfl⟩ | ⟨-, -, rfl, rfl⟩
  · exact ⟨own_li cs, own_li_eq cs, by rw [own_li_len], by rw [own_li_len]; omega⟩
  · exact ⟨own_ui cs, own_ui_eq cs, by rw [own_ui_len], by rw [own_ui_len]; omega⟩
theorem own_eqv01 (cs ds : List Int32) : own_eqv cs ds = 0 ∨ own_eqv cs ds = 1 := by unfold own_eqv; split <;> simp
theorem own_nz01 {x : Int32} (h : x = 0 ∨ x = 1) : nar .boolean x = x := by rcases h with rfl | rfl <;> decide
theorem own_same_txt {Z : State} {h : Heap} {t : Addr} {k1 k2 : ClassId} {cd zz ze : Int32} {bs be : List Value} {cs ds : List Int32} (A : Arv Z h t k1 .byte zz bs (.int 0)) (B : Arv Z h t k2 .byte ze be (.int 0)) (h1 : own_cod cs cd zz bs) (h2 : own_cod ds cd ze be) (k1 : own_chs cs) (k2 : own_chs ds) (n1 : cs.length < 536870912) (n2 : ds.length < 536870912) : own_eqv cs ds = 1 := by
  obtain ⟨ib, ei, ezi, eli⟩ := own_cod_ints h1
  obtain ⟨ie, ej, ezj, elj⟩ := own_cod_ints h2
  have key := own_cod_eq h1 h2 k1 k2 ei ej
  rw [← key]
  apply if_pos
  have e1 : zz.toNatClampNeg = ib.length := by rw [ezi]; exact own_clamp (by omega)
  have e2 : ze.toNatClampNeg = ie.length := by rw [ezj]; exact own_clamp (by omega)
  have hl : ib.length = ie.length := by
    rcases Nat.decEq ib.length ie.length with q | q
    · exact absurd rfl (arv_ne A B (Or.inl (by rw [e1, e2]; exact q)))
    · exact q
  refine own_ext ib ie hl fun i hi => ?_
  rcases (inferInstance : Decidable (ib.getD i 0 = ie.getD i 0)) with q | q
  · refine absurd rfl (arv_ne A B (Or.inr ⟨i, by rw [e1]; exact hi, fun r => q ?_⟩))
    rw [ei, ej, own_getc, own_getc] at r
    exact Value.int.inj r
  · exact q
/-- the first place of the sign, or the length -/
def own_pos (ch : Int32) : List Int32 → Nat
  | [] => 0
  | c :: cs => if c = ch then 0 else own_pos ch cs + 1
theorem own_pos_le (ch : Int32) : ∀ cs : List Int32, own_pos ch cs ≤ cs.length
  | [] => Nat.le_refl _
  | c :: cs => by
    unfold own_pos; split
    · simp
    · have := own_pos_le ch cs; simp; omega
theorem own_pos_ne (ch : Int32) : ∀ (cs : List Int32) (i : Nat), i < own_pos ch cs → ¬ cs.getD i 0 = ch
  | [], i, h => by simp [own_pos] at h
  | c :: cs, i, h => by
    unfold own_pos at h; split at h
    · omega
    · rename_i hc
      cases i with
      | zero => simpa using hc
      | succ i => simpa using own_pos_ne ch cs i (by omega)
theorem own_pos_eq (ch : Int32) : ∀ (cs : List Int32), own_pos ch cs < cs.length → cs.getD (own_pos ch cs) 0 = ch
  | [], h => by simp at h
  | c :: cs, h => by
    unfold own_pos at h ⊢; split
    · rename_i hc; simpa using hc
    · rename_i hc
      rw [if_neg hc] at h
      simpa using own_pos_eq ch cs (by simpa using h)
/-- indexOf -/
def own_ix (ch : Int32) (cs : List Int32) : Int32 := if own_pos ch cs < cs.length then Int32.ofNat (own_pos ch cs) else -1
theorem own_b44 {c : Int32} (h0 : ¬ c < 0) (h1 : ¬ 255 < c) (ch : Int32) (k0 : ¬ ch < 0) (k1 : ¬ 255 < ch) : c.toInt8.toInt32 = ch.toInt8.toInt32 ↔ c = ch := by
  refine ⟨fun q => ?_, fun q => by rw [q]⟩
  have a := own_back8 h0 h1; have b := own_back8 k0 k1
  rw [q] at a; exact a.symm.trans b
theorem own_i2c_rng (x : Int32) : ¬ x.toUInt32.toUInt16.toUInt32.toInt32 < 0 ∧ ¬ 65535 < x.toUInt32.toUInt16.toUInt32.toInt32 := by
  have f := c_i2c x
  constructor
  · rw [Int32.lt_iff_toInt_lt, show (0 : Int32).toInt = 0 from by decide]; omega
  · rw [Int32.lt_iff_toInt_lt, show (65535 : Int32).toInt = 65535 from by decide]; omega
theorem own_c0 : own_chs [] := fun _ q => nomatch q
theorem own_cS {c : Int32} {L : List Int32} (q : ¬ c < 0 ∧ ¬ 65535 < c) (r : own_chs L) : own_chs (c :: L) := fun x z => (List.mem_cons.mp z).elim (fun u => u ▸ q) (r x)
/-- a code point that is no surrogate -/
def own_cp (c : Int32) : Prop := 0 ≤ c.toInt ∧ c.toInt ≤ 1114111 ∧ (c.toInt < 55296 ∨ 57344 ≤ c.toInt)
def own_hiC (c : Int32) : Int32 := ((55296 : Int32) + ((c - (65536 : Int32)) >>> ((10 : Int32) &&& 31))).toUInt32.toUInt16.toUInt32.toInt32
def own_loC (c : Int32) : Int32 := ((56320 : Int32) + (c &&& (1023 : Int32))).toUInt32.toUInt16.toUInt32.toInt32
theorem own_hi_ch (c : Int32) : ¬ own_hiC c < 0 ∧ ¬ 65535 < own_hiC c := own_i2c_rng _
theorem own_lo_ch (c : Int32) : ¬ own_loC c < 0 ∧ ¬ 65535 < own_loC c := own_i2c_rng _
theorem own_lt_int {a b : Int32} : a < b ↔ a.toInt < b.toInt := Int32.lt_iff_toInt_lt
theorem own_hi_val {c : Int32} (h : own_cp c) (hc : ¬ c < 65536) : (own_hiC c).toInt = 55296 + (c.toInt - 65536) / 1024 := by
  obtain ⟨h0, h1, -⟩ := h
  rw [own_lt_int, show (65536 : Int32).toInt = 65536 from by decide] at hc
  have a := c_isub c 65536
  rw [show (65536 : Int32).toInt = 65536 from by decide] at a
  have ra := rng32 (c - 65536)
  have va : (c - 65536).toInt = c.toInt - 65536 := by omega
  have b := c_ishr (c - 65536) 10 10 (by decide)
  rw [va] at b
  have d := c_iadd 55296 ((c - 65536) >>> ((10 : Int32) &&& 31))
  rw [show (55296 : Int32).toInt = 55296 from by decide, b] at d
  have rd := rng32 ((55296 : Int32) + ((c - 65536) >>> ((10 : Int32) &&& 31)))
  have f := c_i2c ((55296 : Int32) + ((c - 65536) >>> ((10 : Int32) &&& 31)))
  have e : ((2 ^ 10 : Nat) : Int) = 1024 := by decide
  rw [e] at d
  unfold own_hiC
  omega
theorem own_lo_val {c : Int32} (h : own_cp c) : (own_loC c).toInt = 56320 + c.toInt % 1024 := by
  have b := c_mask c 1023 10 (by decide) (by decide)
  have d := c_iadd 56320 (c &&& 1023)
  rw [show (56320 : Int32).toInt = 56320 from by decide, b] at d
  have rd := rng32 ((56320 : Int32) + (c &&& 1023))
  have f := c_i2c ((56320 : Int32) + (c &&& 1023))
  have e : ((2 ^ 10 : Nat) : Int) = 1024 := by decide
  rw [e] at d
  unfold own_loC
  omega
/-- the code units of a code point -/
def own_u (c : Int32) : List Int32 := if c < 65536 then [c] else [own_hiC c, own_loC c]
def own_enc (c0 c1 n : Int32) : List Int32 := if n = 0 then [] else if n = 1 then own_u c0 else own_u c0 ++ own_u c1
def own_rank (c : Int32) : Int32 := if ¬ c < 57344 then c - 2048 else if ¬ c < 55296 then c + 8192 else c
def own_icmp (x y : Int32) : Int32 := if x < y then -1 else if x = y then 0 else 1
def own_cmp : List Int32 → List Int32 → Int32
  | [], [] => 0
  | [], _ :: _ => -1
  | _ :: _, [] => 1
  | x :: xs, y :: ys => if x = y then own_cmp xs ys else own_icmp (own_rank x) (own_rank y)
def own_sgn (x : Int32) : Int32 := if x < 0 then -1 else if 0 < x then 1 else 0
theorem own_u_chs {c : Int32} (h : own_cp c) : own_chs (own_u c) := by
  unfold own_u; split
  · rename_i hc
    obtain ⟨h0, -, -⟩ := h
    refine own_cS ⟨?_, ?_⟩ own_c0
    · rw [own_lt_int]; show ¬ (_ < (0 : Int)); omega
    · rw [own_lt_int, show (65535 : Int32).toInt = 65535 from by decide]; rw [own_lt_int, show (65536 : Int32).toInt = 65536 from by decide] at hc; omega
  · exact own_cS (own_hi_ch c) (own_cS (own_lo_ch c) own_c0)
theorem own_chs_app {a b : List Int32} (ha : own_chs a) (hb : own_chs b) : own_chs (a ++ b) := fun c hc => (List.mem_append.mp hc).elim (ha c) (hb c)
theorem own_enc_chs {a b n : Int32} (ha : own_cp a) (hb : own_cp b) : own_chs (own_enc a b n) := by
  unfold own_enc; split
  · exact own_c0
  · split
    · exact own_u_chs ha
    · exact own_chs_app (own_u_chs ha) (own_u_chs hb)
theorem own_u_len (c : Int32) : (own_u c).length ≤ 2 := by unfold own_u; split <;> simp
theorem own_enc_len (a b n : Int32) : (own_enc a b n).length ≤ 4 := by
  have h1 := own_u_len a; have h2 := own_u_len b
  unfold own_enc; split
  · simp
  · split
    · omega
    · rw [List.length_append]; omega
theorem own_i2c_cp {c : Int32} (h : own_cp c) (hc : c < 65536) : c.toUInt32.toUInt16.toUInt32.toInt32 = c := by
  have q := own_u_chs h
  rw [own_u, if_pos hc] at q
  exact own_i2c_id (q c (by simp)).1 (q c (by simp)).2
theorem own_cmp_same (x : Int32) (xs ys : List Int32) : own_cmp (x :: xs) (x :: ys) = own_cmp xs ys := by simp [own_cmp]
theorem own_cmp_diff {x y : Int32} (h : ¬ x = y) (xs ys : List Int32) : own_cmp (x :: xs) (y :: ys) = own_icmp (own_rank x) (own_rank y) := by simp [own_cmp, h]
theorem own_rank_val {c : Int32} (h0 : 0 ≤ c.toInt) (h1 : c.toInt ≤ 65535) : (57344 ≤ c.toInt → (own_rank c).toInt = c.toInt - 2048) ∧ (55296 ≤ c.toInt → c.toInt < 57344 → (own_rank c).toInt = c.toInt + 8192) ∧ (c.toInt < 55296 → (own_rank c).toInt = c.toInt) := by
  have e1 : (57344 : Int32).toInt = 57344 := by decide
  have e2 : (55296 : Int32).toInt = 55296 := by decide
  have a := c_isub c 2048; have ra := rng32 (c - 2048)
  have b := c_iadd c 8192; have rb := rng32 (c + 8192)
  rw [show (2048 : Int32).toInt = 2048 from by decide] at a
  rw [show (8192 : Int32).toInt = 8192 from by decide] at b
  unfold own_rank
  simp only [own_lt_int, e1, e2]
  refine ⟨fun q => ?_, fun q r => ?_, fun q => ?_⟩
  · rw [if_pos (by omega)]; omega
  · rw [if_neg (by omega), if_pos (by omega)]; omega
  · rw [if_neg (by omega), if_neg (by omega)]
theorem own_icmp_of {x y u v : Int32} (hlt : u.toInt < v.toInt ↔ x.toInt < y.toInt) (heq : u.toInt = v.toInt ↔ x.toInt = y.toInt) : own_icmp u v = own_icmp x y := by
  unfold own_icmp
  have h1 : u < v ↔ x < y := by rw [own_lt_int, own_lt_int]; exact hlt
  have h2 : u = v ↔ x = y := ⟨fun q => Int32.toInt_inj.mp (heq.mp (congrArg _ q)), fun q => Int32.toInt_inj.mp (heq.mpr (congrArg _ q))⟩
  simp only [h1, h2]
theorem own_cmp_cp {a b : Int32} (ha : own_cp a) (hb : own_cp b) (hne : ¬ a = b) (xs ys : List Int32) : own_cmp (own_u a ++ xs) (own_u b ++ ys) = own_icmp a b := by
  have hne' : ¬ a.toInt = b.toInt := fun q => hne (Int32.toInt_inj.mp q)
  have e : (65536 : Int32).toInt = 65536 := by decide
  obtain ⟨a0, a1, a2⟩ := id ha
  obtain ⟨b0, b1, b2⟩ := id hb
  unfold own_u
  by_cases ca : a < 65536
  · have ca' : a.toInt < 65536 := by rw [own_lt_int, e] at ca; exact ca
    have ra := own_rank_val a0 (by omega)
    rw [if_pos ca]
    by_cases cb : b < 65536
    · have cb' : b.toInt < 65536 := by rw [own_lt_int, e] at cb; exact cb
      have rb := own_rank_val b0 (by omega)
      rw [if_pos cb]
      show own_cmp (a :: xs) (b :: ys) = _
      rw [own_cmp_diff hne]
      exact own_icmp_of (by omega) (by omega)
    · have cb' : ¬ b.toInt < 65536 := by rw [own_lt_int, e] at cb; exact cb
      have hv := own_hi_val hb cb
      rw [if_neg cb]
      show own_cmp (a :: xs) (own_hiC b :: (own_loC b :: ys)) = _
      have rb := own_rank_val (c := own_hiC b) (by omega) (by omega)
      rw [own_cmp_diff (fun q => by have := congrArg Int32.toInt q; omega)]
      exact own_icmp_of (by omega) (by omega)
  · have ca' : ¬ a.toInt < 65536 := by rw [own_lt_int, e] at ca; exact ca
    have hva := own_hi_val ha ca
    have lva := own_lo_val ha
    have ra := own_rank_val (c := own_hiC a) (by omega) (by omega)
    rw [if_neg ca]
    by_cases cb : b < 65536
    · have cb' : b.toInt < 65536 := by rw [own_lt_int, e] at cb; exact cb
      have rb := own_rank_val b0 (by omega)
      rw [if_pos cb]
      show own_cmp (own_hiC a :: (own_loC a :: xs)) (b :: ys) = _
      rw [own_cmp_diff (fun q => by have := congrArg Int32.toInt q; omega)]
      exact own_icmp_of (by omega) (by omega)
    · have cb' : ¬ b.toInt < 65536 := by rw [own_lt_int, e] at cb; exact cb
      have hvb := own_hi_val hb cb
      have lvb := own_lo_val hb
      have rb := own_rank_val (c := own_hiC b) (by omega) (by omega)
      rw [if_neg cb]
      show own_cmp (own_hiC a :: (own_loC a :: xs)) (own_hiC b :: (own_loC b :: ys)) = _
      by_cases hh : own_hiC a = own_hiC b
      · have hh' := congrArg Int32.toInt hh
        have sa := own_rank_val (c := own_loC a) (by omega) (by omega)
        have sb := own_rank_val (c := own_loC b) (by omega) (by omega)
        rw [hh, own_cmp_same, own_cmp_diff (fun q => by have := congrArg Int32.toInt q; omega)]
        exact own_icmp_of (by omega) (by omega)
      · have hh' : ¬ (own_hiC a).toInt = (own_hiC b).toInt := fun q => hh (Int32.toInt_inj.mp q)
        rw [own_cmp_diff hh]
        exact own_icmp_of (by omega) (by omega)
theorem own_cmp_refl : ∀ (p xs ys : List Int32), own_cmp (p ++ xs) (p ++ ys) = own_cmp xs ys
  | [], _, _ => rfl
  | x :: p, xs, ys => by
    show own_cmp (x :: (p ++ xs)) (x :: (p ++ ys)) = _
    rw [own_cmp_same]; exact own_cmp_refl p xs ys
theorem own_u_cons (c : Int32) : ∃ x r, own_u c = x :: r := by unfold own_u; split; exact ⟨_, _, rfl⟩; exact ⟨_, _, rfl⟩
theorem own_cmp_nl (c : Int32) (r : List Int32) : own_cmp [] (own_u c ++ r) = -1 := by
  obtain ⟨x, q, e⟩ := own_u_cons c; rw [e]; rfl
theorem own_cmp_nr (c : Int32) (r : List Int32) : own_cmp (own_u c ++ r) [] = 1 := by
  obtain ⟨x, q, e⟩ := own_u_cons c; rw [e]; rfl
theorem own_icmp_sgn (x y : Int32) : own_sgn (own_icmp x y) = own_icmp x y := by
  unfold own_icmp; split
  · rfl
  · split <;> rfl
/-- 0, 1 or 2 -/
def own_3 (n : Int32) : Prop := n = 0 ∨ n = 1 ∨ n = 2
theorem own_rem3 (x : Int32) : own_3 ((x &&& 255) - ((x &&& 255) / 3) * 3) := by
  have h := c_and x 255 (by decide)
  rw [irem_eq_mod]
  have q := (c_iremV (x &&& 255) 3).1 h.1 (by decide)
  have e : (3 : Int32).toInt = 3 := by decide
  rw [e] at q
  have : ((x &&& 255) % 3).toInt = 0 ∨ ((x &&& 255) % 3).toInt = 1 ∨ ((x &&& 255) % 3).toInt = 2 := by omega
  rcases this with r | r | r
  · exact Or.inl (Int32.toInt_inj.mp r)
  · exact Or.inr (Or.inl (Int32.toInt_inj.mp r))
  · exact Or.inr (Or.inr (Int32.toInt_inj.mp r))
theorem own_app_nil (c : Int32) : own_u c = own_u c ++ [] := (List.append_nil _).symm
theorem own_enc1 (a b : Int32) : own_enc a b 1 = own_u a ++ [] := by rw [List.append_nil]; rfl
theorem own_enc2 (a b : Int32) : own_enc a b 2 = own_u a ++ own_u b := rfl
theorem own_L0 {a0 a1 b0 b1 na nb : Int32} (hna : own_3 na) (hnb : own_3 nb) (h : na = 0 ∨ nb = 0) : own_sgn (own_cmp (own_enc a0 a1 na) (own_enc b0 b1 nb)) = own_sgn (na - nb) := by
  rcases hna with rfl | rfl | rfl <;> rcases hnb with rfl | rfl | rfl
  · rfl
  · rw [own_enc1, show own_enc a0 a1 0 = [] from rfl, own_cmp_nl]; decide
  · rw [own_enc2, show own_enc a0 a1 0 = [] from rfl, own_cmp_nl]; decide
  · rw [own_enc1, show own_enc b0 b1 0 = [] from rfl, own_cmp_nr]; decide
  · exact absurd h (by decide)
  · exact absurd h (by decide)
  · rw [own_enc2, show own_enc b0 b1 0 = [] from rfl, own_cmp_nr]; decide
  · exact absurd h (by decide)
  · exact absurd h (by decide)
theorem own_enc_pos {a b n : Int32} (hn : own_3 n) (h0 : ¬ n = 0) : ∃ r, own_enc a b n = own_u a ++ r := by
  rcases hn with rfl | rfl | rfl
  · exact absurd rfl h0
  · exact ⟨[], own_enc1 a b⟩
  · exact ⟨own_u b, rfl⟩
theorem own_L1 {a0 a1 b0 b1 na nb : Int32} (hna : own_3 na) (hnb : own_3 nb) (h0 : ¬ na = 0) (h1 : ¬ nb = 0) (ha : own_cp a0) (hb : own_cp b0) (hne : ¬ a0 = b0) : own_sgn (own_cmp (own_enc a0 a1 na) (own_enc b0 b1 nb)) = own_icmp a0 b0 := by
  obtain ⟨r, e1⟩ := own_enc_pos (a := a0) (b := a1) hna h0
  obtain ⟨t, e2⟩ := own_enc_pos (a := b0) (b := b1) hnb h1
  rw [e1, e2, own_cmp_cp ha hb hne, own_icmp_sgn]
theorem own_L2 {a0 a1 b1 na nb : Int32} (hna : own_3 na) (hnb : own_3 nb) (h0 : ¬ na = 0) (h1 : ¬ nb = 0) (h : na = 1 ∨ nb = 1) : own_sgn (own_cmp (own_enc a0 a1 na) (own_enc a0 b1 nb)) = own_sgn (na - nb) := by
  rcases hna with rfl | rfl | rfl
  · exact absurd rfl h0
  · rcases hnb with rfl | rfl | rfl
    · exact absurd rfl h1
    · rw [own_enc1, own_enc1, own_cmp_refl]; rfl
    · rw [own_enc1, own_enc2, own_cmp_refl, own_app_nil b1, own_cmp_nl]; decide
  · rcases hnb with rfl | rfl | rfl
    · exact absurd rfl h1
    · rw [own_enc1, own_enc2, own_cmp_refl, own_app_nil a1, own_cmp_nr]; decide
    · exact absurd h (by decide)
theorem own_two {n : Int32} (hn : own_3 n) (h0 : ¬ n = 0) (h1 : ¬ n = 1) : n = 2 := by
  rcases hn with q | q | q
  · exact absurd q h0
  · exact absurd q h1
  · exact q
theorem own_L3 {a0 a1 b1 : Int32} (ha : own_cp a1) (hb : own_cp b1) (hne : ¬ a1 = b1) : own_sgn (own_cmp (own_enc a0 a1 2) (own_enc a0 b1 2)) = own_icmp a1 b1 := by
  rw [own_enc2, own_enc2, own_cmp_refl, own_app_nil a1, own_app_nil b1, own_cmp_cp ha hb hne, own_icmp_sgn]
theorem own_L4 {a0 a1 : Int32} : own_sgn (own_cmp (own_enc a0 a1 2) (own_enc a0 a1 2)) = 0 := by
  have q := own_cmp_refl (own_enc a0 a1 2) [] []
  rw [List.append_nil] at q
  rw [q]; rfl
theorem own_icmp_lt {x y : Int32} (h : x < y) : own_icmp x y = -1 := if_pos h
theorem own_icmp_gt {x y : Int32} (h : ¬ x < y) (h2 : ¬ x = y) : own_icmp x y = 1 := by rw [own_icmp, if_neg h, if_neg h2]
theorem own_drop_at {cs : List Int32} {i : Nat} (h : i < cs.length) : cs.drop i = cs.getD i 0 :: cs.drop (i + 1) := by
  rw [List.drop_eq_getElem_cons h, List.getD_eq_getElem?_getD, List.getElem?_eq_getElem h]; rfl
theorem own_cmp_end {cs ds : List Int32} {i : Nat} (hi : i ≤ cs.length) (hj : i ≤ ds.length) (h : i = cs.length ∨ i = ds.length) (n1 : cs.length < 2147483648) (n2 : ds.length < 2147483648) : own_cmp (cs.drop i) (ds.drop i) = own_icmp (Int32.ofNat cs.length) (Int32.ofNat ds.length) := by
  have e1 := own_nat n1; have e2 := own_nat n2
  by_cases q1 : i = cs.length
  · have d1 : cs.drop i = [] := by rw [q1]; exact List.drop_length
    by_cases q2 : i = ds.length
    · have d2 : ds.drop i = [] := by rw [q2]; exact List.drop_length
      rw [d1, d2, own_icmp, if_neg (by rw [own_lt_int]; omega), if_pos (Int32.toInt_inj.mp (by omega))]; rfl
    · rw [d1, own_drop_at (show i < ds.length by omega), own_icmp, if_pos (by rw [own_lt_int]; omega)]; rfl
  · have q2 : i = ds.length := h.resolve_left q1
    have d2 : ds.drop i = [] := by rw [q2]; exact List.drop_length
    rw [d2, own_drop_at (show i < cs.length by omega), own_icmp, if_neg (by rw [own_lt_int]; omega), if_neg (fun q => by have := congrArg Int32.toInt q; omega)]; rfl
theorem own_cp_rng (x : Int32) : 0 ≤ ((x &&& 2147483647) - ((x &&& 2147483647) / 1112064) * 1112064).toInt ∧ ((x &&& 2147483647) - ((x &&& 2147483647) / 1112064) * 1112064).toInt < 1112064 := by
  have h := c_and x 2147483647 (by decide)
  rw [irem_eq_mod]
  have q := (c_iremV (x &&& 2147483647) 1112064).1 h.1 (by decide)
  have e : (1112064 : Int32).toInt = 1112064 := by decide
  rw [e] at q
  exact ⟨q.1, q.2.1⟩
theorem own_cp_lo {c : Int32} (h : 0 ≤ c.toInt ∧ c.toInt < 1112064) (q : c < 55296) : own_cp c := by
  rw [own_lt_int, show (55296 : Int32).toInt = 55296 from by decide] at q
  exact ⟨h.1, by omega, Or.inl q⟩
theorem own_cp_hi {c : Int32} (h : 0 ≤ c.toInt ∧ c.toInt < 1112064) (q : ¬ c < 55296) : own_cp (c + 2048) := by
  rw [own_lt_int, show (55296 : Int32).toInt = 55296 from by decide] at q
  have a := c_iadd c 2048; have r := rng32 (c + 2048)
  rw [show (2048 : Int32).toInt = 2048 from by decide] at a
  exact ⟨by omega, by omega, Or.inr (by omega)⟩
theorem own_cod1L {c : Int32} (h : ¬ 255 < c) : own_cod [c] 0 1 (own_lat [c]) := Or.inl ⟨by simp [own_fst, h], rfl, rfl, rfl⟩
theorem own_cod1U {c : Int32} (h : 255 < c) : own_cod [c] 1 2 (own_u16 [c]) := Or.inr ⟨by simp [own_fst, h], rfl, rfl, rfl⟩
def own_minv (x z : Int32) : Int32 := if z < x then z else x
theorem own_min_nat {a b : Nat} (ha : a < 2147483648) (hb : b < 2147483648) : own_minv (Int32.ofNat a) (Int32.ofNat b) = Int32.ofNat (min a b) := by
  unfold own_minv
  simp only [own_lt_int, own_nat ha, own_nat hb]
  by_cases h : b < a
  · rw [if_pos (by omega), Nat.min_eq_right (by omega)]
  · rw [if_neg (by omega), Nat.min_eq_left (by omega)]
theorem d_jdk_29_69_0 : decode jdk_29_method_69_code 0 = .ok (.iload_n 0, 1) := by decide +kernel
theorem d_jdk_29_69_1 : decode jdk_29_method_69_code 1 = .ok (.iload_n 1, 1) := by decide +kernel
theorem d_jdk_29_69_2 : decode jdk_29_method_69_code 2 = .ok (.if_icmp .gt 7, 3) := by decide +kernel
theorem d_jdk_29_69_5 : decode jdk_29_method_69_code 5 = .ok (.iload_n 0, 1) := by decide +kernel
theorem d_jdk_29_69_6 : decode jdk_29_method_69_code 6 = .ok (.goto 4, 3) := by decide +kernel
theorem d_jdk_29_69_9 : decode jdk_29_method_69_code 9 = .ok (.iload_n 1, 1) := by decide +kernel
theorem d_jdk_29_69_10 : decode jdk_29_method_69_code 10 = .ok (.ireturn, 1) := by decide +kernel
theorem d_jdk_33_40_0 : decode jdk_33_method_40_code 0 = .ok (.iload_n 0, 1) := by decide +kernel
theorem d_jdk_33_40_1 : decode jdk_33_method_40_code 1 = .ok (.iload_n 1, 1) := by decide +kernel
theorem d_jdk_33_40_2 : decode jdk_33_method_40_code 2 = .ok (.if_icmp .ge 7, 3) := by decide +kernel
theorem d_jdk_33_40_5 : decode jdk_33_method_40_code 5 = .ok (.iconst (-1), 1) := by decide +kernel
theorem d_jdk_33_40_6 : decode jdk_33_method_40_code 6 = .ok (.goto 13, 3) := by decide +kernel
theorem d_jdk_33_40_9 : decode jdk_33_method_40_code 9 = .ok (.iload_n 0, 1) := by decide +kernel
theorem d_jdk_33_40_10 : decode jdk_33_method_40_code 10 = .ok (.iload_n 1, 1) := by decide +kernel
theorem d_jdk_33_40_11 : decode jdk_33_method_40_code 11 = .ok (.if_icmp .ne 7, 3) := by decide +kernel
theorem d_jdk_33_40_14 : decode jdk_33_method_40_code 14 = .ok (.iconst 0, 1) := by decide +kernel
theorem d_jdk_33_40_15 : decode jdk_33_method_40_code 15 = .ok (.goto 4, 3) := by decide +kernel
theorem d_jdk_33_40_18 : decode jdk_33_method_40_code 18 = .ok (.iconst 1, 1) := by decide +kernel
theorem d_jdk_33_40_19 : decode jdk_33_method_40_code 19 = .ok (.ireturn, 1) := by decide +kernel
theorem d_jdk_41_11_0 : decode jdk_41_method_11_code 0 = .ok (.iload_n 0, 1) := by decide +kernel
theorem d_jdk_41_11_1 : decode jdk_41_method_11_code 1 = .ok (.ifCond .lt 8, 3) := by decide +kernel
theorem d_jdk_41_11_4 : decode jdk_41_method_11_code 4 = .ok (.iload_n 0, 1) := by decide +kernel
theorem d_jdk_41_11_5 : decode jdk_41_method_11_code 5 = .ok (.iload_n 1, 1) := by decide +kernel
theorem d_jdk_41_11_6 : decode jdk_41_method_11_code 6 = .ok (.if_icmp .lt 10, 3) := by decide +kernel
theorem d_jdk_41_11_16 : decode jdk_41_method_11_code 16 = .ok (.iload_n 0, 1) := by decide +kernel
theorem d_jdk_41_11_17 : decode jdk_41_method_11_code 17 = .ok (.ireturn, 1) := by decide +kernel
theorem d_jdk_42_139_0 : decode jdk_42_method_139_code 0 = .ok (.getstatic 38, 3) := by decide +kernel
theorem d_jdk_42_139_3 : decode jdk_42_method_139_code 3 = .ok (.ifCond .eq 23, 3) := by decide +kernel
theorem d_jdk_42_139_6 : decode jdk_42_method_139_code 6 = .ok (.iload_n 0, 1) := by decide +kernel
theorem d_jdk_42_139_7 : decode jdk_42_method_139_code 7 = .ok (.invokestatic 1015, 3) := by decide +kernel
theorem d_jdk_42_139_10 : decode jdk_42_method_139_code 10 = .ok (.ifCond .eq 16, 3) := by decide +kernel
theorem d_jdk_42_139_13 : decode jdk_42_method_139_code 13 = .ok (.new 10, 3) := by decide +kernel
theorem d_jdk_42_139_16 : decode jdk_42_method_139_code 16 = .ok (.dup, 1) := by decide +kernel
theorem d_jdk_42_139_17 : decode jdk_42_method_139_code 17 = .ok (.iload_n 0, 1) := by decide +kernel
theorem d_jdk_42_139_18 : decode jdk_42_method_139_code 18 = .ok (.invokestatic 1018, 3) := by decide +kernel
theorem d_jdk_42_139_21 : decode jdk_42_method_139_code 21 = .ok (.iconst 0, 1) := by decide +kernel
theorem d_jdk_42_139_22 : decode jdk_42_method_139_code 22 = .ok (.invokespecial 209, 3) := by decide +kernel
theorem d_jdk_42_139_25 : decode jdk_42_method_139_code 25 = .ok (.areturn, 1) := by decide +kernel
theorem d_jdk_42_139_26 : decode jdk_42_method_139_code 26 = .ok (.new 10, 3) := by decide +kernel
theorem d_jdk_42_139_29 : decode jdk_42_method_139_code 29 = .ok (.dup, 1) := by decide +kernel
theorem d_jdk_42_139_30 : decode jdk_42_method_139_code 30 = .ok (.iload_n 0, 1) := by decide +kernel
theorem d_jdk_42_139_31 : decode jdk_42_method_139_code 31 = .ok (.invokestatic 1021, 3) := by decide +kernel
theorem d_jdk_42_139_34 : decode jdk_42_method_139_code 34 = .ok (.iconst 1, 1) := by decide +kernel
theorem d_jdk_42_139_35 : decode jdk_42_method_139_code 35 = .ok (.invokespecial 209, 3) := by decide +kernel
theorem d_jdk_42_139_38 : decode jdk_42_method_139_code 38 = .ok (.areturn, 1) := by decide +kernel
theorem d_jdk_42_149_0 : decode jdk_42_method_149_code 0 = .ok (.aload_n 0, 1) := by decide +kernel
theorem d_jdk_42_149_1 : decode jdk_42_method_149_code 1 = .ok (.invokespecial 1, 3) := by decide +kernel
theorem d_jdk_42_149_4 : decode jdk_42_method_149_code 4 = .ok (.iload_n 3, 1) := by decide +kernel
theorem d_jdk_42_149_5 : decode jdk_42_method_149_code 5 = .ok (.ifCond .ne 22, 3) := by decide +kernel
theorem d_jdk_42_149_8 : decode jdk_42_method_149_code 8 = .ok (.aload_n 0, 1) := by decide +kernel
theorem d_jdk_42_149_9 : decode jdk_42_method_149_code 9 = .ok (.ldc 7, 2) := by decide +kernel
theorem d_jdk_42_149_11 : decode jdk_42_method_149_code 11 = .ok (.getfield 9, 3) := by decide +kernel
theorem d_jdk_42_149_14 : decode jdk_42_method_149_code 14 = .ok (.putfield 9, 3) := by decide +kernel
theorem d_jdk_42_149_17 : decode jdk_42_method_149_code 17 = .ok (.aload_n 0, 1) := by decide +kernel
theorem d_jdk_42_149_18 : decode jdk_42_method_149_code 18 = .ok (.ldc 7, 2) := by decide +kernel
theorem d_jdk_42_149_20 : decode jdk_42_method_149_code 20 = .ok (.getfield 15, 3) := by decide +kernel
theorem d_jdk_42_149_23 : decode jdk_42_method_149_code 23 = .ok (.putfield 15, 3) := by decide +kernel
theorem d_jdk_42_149_26 : decode jdk_42_method_149_code 26 = .ok (.return_, 1) := by decide +kernel
theorem d_jdk_42_149_27 : decode jdk_42_method_149_code 27 = .ok (.getstatic 38, 3) := by decide +kernel
theorem d_jdk_42_149_30 : decode jdk_42_method_149_code 30 = .ok (.ifCond .eq 28, 3) := by decide +kernel
theorem d_jdk_42_149_33 : decode jdk_42_method_149_code 33 = .ok (.aload_n 1, 1) := by decide +kernel
theorem d_jdk_42_149_34 : decode jdk_42_method_149_code 34 = .ok (.iload_n 2, 1) := by decide +kernel
theorem d_jdk_42_149_35 : decode jdk_42_method_149_code 35 = .ok (.iload_n 3, 1) := by decide +kernel
theorem d_jdk_42_149_36 : decode jdk_42_method_149_code 36 = .ok (.invokestatic 177, 3) := by decide +kernel
theorem d_jdk_42_149_39 : decode jdk_42_method_149_code 39 = .ok (.astore 5, 2) := by decide +kernel
theorem d_jdk_42_149_41 : decode jdk_42_method_149_code 41 = .ok (.aload_n 0, 1) := by decide +kernel
theorem d_jdk_42_149_42 : decode jdk_42_method_149_code 42 = .ok (.aload 5, 2) := by decide +kernel
theorem d_jdk_42_149_44 : decode jdk_42_method_149_code 44 = .ok (.iload_n 3, 1) := by decide +kernel
theorem d_jdk_42_149_45 : decode jdk_42_method_149_code 45 = .ok (.invokestatic 47, 3) := by decide +kernel
theorem d_jdk_42_149_48 : decode jdk_42_method_149_code 48 = .ok (.putfield 15, 3) := by decide +kernel
theorem d_jdk_42_149_51 : decode jdk_42_method_149_code 51 = .ok (.aload_n 0, 1) := by decide +kernel
theorem d_jdk_42_149_52 : decode jdk_42_method_149_code 52 = .ok (.aload 5, 2) := by decide +kernel
theorem d_jdk_42_149_54 : decode jdk_42_method_149_code 54 = .ok (.putfield 9, 3) := by decide +kernel
theorem d_jdk_42_149_57 : decode jdk_42_method_149_code 57 = .ok (.return_, 1) := by decide +kernel
theorem d_jdk_42_151_0 : decode jdk_42_method_151_code 0 = .ok (.aload_n 0, 1) := by decide +kernel
theorem d_jdk_42_151_1 : decode jdk_42_method_151_code 1 = .ok (.invokespecial 1, 3) := by decide +kernel
theorem d_jdk_42_151_4 : decode jdk_42_method_151_code 4 = .ok (.aload_n 0, 1) := by decide +kernel
theorem d_jdk_42_151_5 : decode jdk_42_method_151_code 5 = .ok (.aload_n 1, 1) := by decide +kernel
theorem d_jdk_42_151_6 : decode jdk_42_method_151_code 6 = .ok (.putfield 9, 3) := by decide +kernel
theorem d_jdk_42_151_9 : decode jdk_42_method_151_code 9 = .ok (.aload_n 0, 1) := by decide +kernel
theorem d_jdk_42_151_10 : decode jdk_42_method_151_code 10 = .ok (.iload_n 2, 1) := by decide +kernel
theorem d_jdk_42_151_11 : decode jdk_42_method_151_code 11 = .ok (.putfield 15, 3) := by decide +kernel
theorem d_jdk_42_151_14 : decode jdk_42_method_151_code 14 = .ok (.return_, 1) := by decide +kernel
theorem d_jdk_42_152_0 : decode jdk_42_method_152_code 0 = .ok (.getstatic 38, 3) := by decide +kernel
theorem d_jdk_42_152_3 : decode jdk_42_method_152_code 3 = .ok (.ifCond .eq 10, 3) := by decide +kernel
theorem d_jdk_42_152_6 : decode jdk_42_method_152_code 6 = .ok (.aload_n 0, 1) := by decide +kernel
theorem d_jdk_42_152_7 : decode jdk_42_method_152_code 7 = .ok (.getfield 15, 3) := by decide +kernel
theorem d_jdk_42_152_10 : decode jdk_42_method_152_code 10 = .ok (.goto 4, 3) := by decide +kernel
theorem d_jdk_42_152_14 : decode jdk_42_method_152_code 14 = .ok (.ireturn, 1) := by decide +kernel
theorem d_jdk_42_154_0 : decode jdk_42_method_154_code 0 = .ok (.getstatic 38, 3) := by decide +kernel
theorem d_jdk_42_154_3 : decode jdk_42_method_154_code 3 = .ok (.ifCond .eq 14, 3) := by decide +kernel
theorem d_jdk_42_154_6 : decode jdk_42_method_154_code 6 = .ok (.aload_n 0, 1) := by decide +kernel
theorem d_jdk_42_154_7 : decode jdk_42_method_154_code 7 = .ok (.getfield 15, 3) := by decide +kernel
theorem d_jdk_42_154_10 : decode jdk_42_method_154_code 10 = .ok (.ifCond .ne 7, 3) := by decide +kernel
theorem d_jdk_42_154_13 : decode jdk_42_method_154_code 13 = .ok (.iconst 1, 1) := by decide +kernel
theorem d_jdk_42_154_14 : decode jdk_42_method_154_code 14 = .ok (.goto 4, 3) := by decide +kernel
theorem d_jdk_42_154_17 : decode jdk_42_method_154_code 17 = .ok (.iconst 0, 1) := by decide +kernel
theorem d_jdk_42_154_18 : decode jdk_42_method_154_code 18 = .ok (.ireturn, 1) := by decide +kernel
theorem d_jdk_42_155_0 : decode jdk_42_method_155_code 0 = .ok (.iload_n 0, 1) := by decide +kernel
theorem d_jdk_42_155_1 : decode jdk_42_method_155_code 1 = .ok (.iload_n 1, 1) := by decide +kernel
theorem d_jdk_42_155_2 : decode jdk_42_method_155_code 2 = .ok (.getstatic 1053, 3) := by decide +kernel
theorem d_jdk_42_155_5 : decode jdk_42_method_155_code 5 = .ok (.invokestatic 1059, 3) := by decide +kernel
theorem d_jdk_42_155_8 : decode jdk_42_method_155_code 8 = .ok (.pop, 1) := by decide +kernel
theorem d_jdk_42_155_9 : decode jdk_42_method_155_code 9 = .ok (.return_, 1) := by decide +kernel
theorem d_jdk_42_3_0 : decode jdk_42_method_3_code 0 = .ok (.aload_n 0, 1) := by decide +kernel
theorem d_jdk_42_3_1 : decode jdk_42_method_3_code 1 = .ok (.aload_n 1, 1) := by decide +kernel
theorem d_jdk_42_3_2 : decode jdk_42_method_3_code 2 = .ok (.iconst 0, 1) := by decide +kernel
theorem d_jdk_42_3_3 : decode jdk_42_method_3_code 3 = .ok (.aload_n 1, 1) := by decide +kernel
theorem d_jdk_42_3_4 : decode jdk_42_method_3_code 4 = .ok (.arraylength, 1) := by decide +kernel
theorem d_jdk_42_3_5 : decode jdk_42_method_3_code 5 = .ok (.aconst_null, 1) := by decide +kernel
theorem d_jdk_42_3_6 : decode jdk_42_method_3_code 6 = .ok (.invokespecial 27, 3) := by decide +kernel
theorem d_jdk_42_3_9 : decode jdk_42_method_3_code 9 = .ok (.return_, 1) := by decide +kernel
theorem d_jdk_42_54_0 : decode jdk_42_method_54_code 0 = .ok (.aload_n 0, 1) := by decide +kernel
theorem d_jdk_42_54_1 : decode jdk_42_method_54_code 1 = .ok (.getfield 9, 3) := by decide +kernel
theorem d_jdk_42_54_4 : decode jdk_42_method_54_code 4 = .ok (.arraylength, 1) := by decide +kernel
theorem d_jdk_42_54_5 : decode jdk_42_method_54_code 5 = .ok (.aload_n 0, 1) := by decide +kernel
theorem d_jdk_42_54_6 : decode jdk_42_method_54_code 6 = .ok (.invokevirtual 335, 3) := by decide +kernel
theorem d_jdk_42_54_9 : decode jdk_42_method_54_code 9 = .ok (.ishr, 1) := by decide +kernel
theorem d_jdk_42_54_10 : decode jdk_42_method_54_code 10 = .ok (.ireturn, 1) := by decide +kernel
theorem d_jdk_42_56_0 : decode jdk_42_method_56_code 0 = .ok (.aload_n 0, 1) := by decide +kernel
theorem d_jdk_42_56_1 : decode jdk_42_method_56_code 1 = .ok (.invokevirtual 492, 3) := by decide +kernel
theorem d_jdk_42_56_4 : decode jdk_42_method_56_code 4 = .ok (.ifCond .eq 12, 3) := by decide +kernel
theorem d_jdk_42_56_7 : decode jdk_42_method_56_code 7 = .ok (.aload_n 0, 1) := by decide +kernel
theorem d_jdk_42_56_8 : decode jdk_42_method_56_code 8 = .ok (.getfield 9, 3) := by decide +kernel
theorem d_jdk_42_56_11 : decode jdk_42_method_56_code 11 = .ok (.iload_n 1, 1) := by decide +kernel
theorem d_jdk_42_56_12 : decode jdk_42_method_56_code 12 = .ok (.invokestatic 495, 3) := by decide +kernel
theorem d_jdk_42_56_15 : decode jdk_42_method_56_code 15 = .ok (.ireturn, 1) := by decide +kernel
theorem d_jdk_42_56_16 : decode jdk_42_method_56_code 16 = .ok (.aload_n 0, 1) := by decide +kernel
theorem d_jdk_42_56_17 : decode jdk_42_method_56_code 17 = .ok (.getfield 9, 3) := by decide +kernel
theorem d_jdk_42_56_20 : decode jdk_42_method_56_code 20 = .ok (.iload_n 1, 1) := by decide +kernel
theorem d_jdk_42_56_21 : decode jdk_42_method_56_code 21 = .ok (.invokestatic 498, 3) := by decide +kernel
theorem d_jdk_42_56_24 : decode jdk_42_method_56_code 24 = .ok (.ireturn, 1) := by decide +kernel
theorem d_jdk_43_2_0 : decode jdk_43_method_2_code 0 = .ok (.iload_n 1, 1) := by decide +kernel
theorem d_jdk_43_2_1 : decode jdk_43_method_2_code 1 = .ok (.aload_n 0, 1) := by decide +kernel
theorem d_jdk_43_2_2 : decode jdk_43_method_2_code 2 = .ok (.arraylength, 1) := by decide +kernel
theorem d_jdk_43_2_3 : decode jdk_43_method_2_code 3 = .ok (.invokestatic 9, 3) := by decide +kernel
theorem d_jdk_43_2_6 : decode jdk_43_method_2_code 6 = .ok (.aload_n 0, 1) := by decide +kernel
theorem d_jdk_43_2_7 : decode jdk_43_method_2_code 7 = .ok (.iload_n 1, 1) := by decide +kernel
theorem d_jdk_43_2_8 : decode jdk_43_method_2_code 8 = .ok (.baload, 1) := by decide +kernel
theorem d_jdk_43_2_9 : decode jdk_43_method_2_code 9 = .ok (.sipush 255, 3) := by decide +kernel
theorem d_jdk_43_2_12 : decode jdk_43_method_2_code 12 = .ok (.iand, 1) := by decide +kernel
theorem d_jdk_43_2_13 : decode jdk_43_method_2_code 13 = .ok (.i2c, 1) := by decide +kernel
theorem d_jdk_43_2_14 : decode jdk_43_method_2_code 14 = .ok (.ireturn, 1) := by decide +kernel
theorem d_jdk_43_3_0 : decode jdk_43_method_3_code 0 = .ok (.iload_n 0, 1) := by decide +kernel
theorem d_jdk_43_3_1 : decode jdk_43_method_3_code 1 = .ok (.sipush 255, 3) := by decide +kernel
theorem d_jdk_43_3_4 : decode jdk_43_method_3_code 4 = .ok (.if_icmp .gt 7, 3) := by decide +kernel
theorem d_jdk_43_3_7 : decode jdk_43_method_3_code 7 = .ok (.iconst 1, 1) := by decide +kernel
theorem d_jdk_43_3_8 : decode jdk_43_method_3_code 8 = .ok (.goto 4, 3) := by decide +kernel
theorem d_jdk_43_3_11 : decode jdk_43_method_3_code 11 = .ok (.iconst 0, 1) := by decide +kernel
theorem d_jdk_43_3_12 : decode jdk_43_method_3_code 12 = .ok (.ireturn, 1) := by decide +kernel
theorem d_jdk_43_46_0 : decode jdk_43_method_46_code 0 = .ok (.iconst 1, 1) := by decide +kernel
theorem d_jdk_43_46_1 : decode jdk_43_method_46_code 1 = .ok (.newarray .byte, 2) := by decide +kernel
theorem d_jdk_43_46_3 : decode jdk_43_method_46_code 3 = .ok (.dup, 1) := by decide +kernel
theorem d_jdk_43_46_4 : decode jdk_43_method_46_code 4 = .ok (.iconst 0, 1) := by decide +kernel
theorem d_jdk_43_46_5 : decode jdk_43_method_46_code 5 = .ok (.iload_n 0, 1) := by decide +kernel
theorem d_jdk_43_46_6 : decode jdk_43_method_46_code 6 = .ok (.i2b, 1) := by decide +kernel
theorem d_jdk_43_46_7 : decode jdk_43_method_46_code 7 = .ok (.bastore, 1) := by decide +kernel
theorem d_jdk_43_46_8 : decode jdk_43_method_46_code 8 = .ok (.areturn, 1) := by decide +kernel
theorem d_jdk_52_14_0 : decode jdk_52_method_14_code 0 = .ok (.iload_n 2, 1) := by decide +kernel
theorem d_jdk_52_14_1 : decode jdk_52_method_14_code 1 = .ok (.invokestatic 107, 3) := by decide +kernel
theorem d_jdk_52_14_4 : decode jdk_52_method_14_code 4 = .ok (.astore_n 3, 1) := by decide +kernel
theorem d_jdk_52_14_5 : decode jdk_52_method_14_code 5 = .ok (.iconst 0, 1) := by decide +kernel
theorem d_jdk_52_14_6 : decode jdk_52_method_14_code 6 = .ok (.istore 4, 2) := by decide +kernel
theorem d_jdk_52_14_8 : decode jdk_52_method_14_code 8 = .ok (.iload 4, 2) := by decide +kernel
theorem d_jdk_52_14_10 : decode jdk_52_method_14_code 10 = .ok (.iload_n 2, 1) := by decide +kernel
theorem d_jdk_52_14_11 : decode jdk_52_method_14_code 11 = .ok (.if_icmp .ge 21, 3) := by decide +kernel
theorem d_jdk_52_14_14 : decode jdk_52_method_14_code 14 = .ok (.aload_n 3, 1) := by decide +kernel
theorem d_jdk_52_14_15 : decode jdk_52_method_14_code 15 = .ok (.iload 4, 2) := by decide +kernel
theorem d_jdk_52_14_17 : decode jdk_52_method_14_code 17 = .ok (.aload_n 0, 1) := by decide +kernel
theorem d_jdk_52_14_18 : decode jdk_52_method_14_code 18 = .ok (.iload_n 1, 1) := by decide +kernel
theorem d_jdk_52_14_19 : decode jdk_52_method_14_code 19 = .ok (.caload, 1) := by decide +kernel
theorem d_jdk_52_14_20 : decode jdk_52_method_14_code 20 = .ok (.invokestatic 111, 3) := by decide +kernel
theorem d_jdk_52_14_23 : decode jdk_52_method_14_code 23 = .ok (.iinc 1 1, 3) := by decide +kernel
theorem d_jdk_52_14_26 : decode jdk_52_method_14_code 26 = .ok (.iinc 4 1, 3) := by decide +kernel
theorem d_jdk_52_14_29 : decode jdk_52_method_14_code 29 = .ok (.goto (-21), 3) := by decide +kernel
theorem d_jdk_52_14_32 : decode jdk_52_method_14_code 32 = .ok (.aload_n 3, 1) := by decide +kernel
theorem d_jdk_52_14_33 : decode jdk_52_method_14_code 33 = .ok (.areturn, 1) := by decide +kernel
theorem d_jdk_52_15_0 : decode jdk_52_method_15_code 0 = .ok (.iload_n 1, 1) := by decide +kernel
theorem d_jdk_52_15_1 : decode jdk_52_method_15_code 1 = .ok (.aload_n 0, 1) := by decide +kernel
theorem d_jdk_52_15_2 : decode jdk_52_method_15_code 2 = .ok (.arraylength, 1) := by decide +kernel
theorem d_jdk_52_15_3 : decode jdk_52_method_15_code 3 = .ok (.isub, 1) := by decide +kernel
theorem d_jdk_52_15_4 : decode jdk_52_method_15_code 4 = .ok (.bipush 31, 2) := by decide +kernel
theorem d_jdk_52_15_6 : decode jdk_52_method_15_code 6 = .ok (.iushr, 1) := by decide +kernel
theorem d_jdk_52_15_7 : decode jdk_52_method_15_code 7 = .ok (.i2b, 1) := by decide +kernel
theorem d_jdk_52_15_8 : decode jdk_52_method_15_code 8 = .ok (.ireturn, 1) := by decide +kernel
theorem d_jdk_52_16_0 : decode jdk_52_method_16_code 0 = .ok (.iload_n 2, 1) := by decide +kernel
theorem d_jdk_52_16_1 : decode jdk_52_method_16_code 1 = .ok (.newarray .byte, 2) := by decide +kernel
theorem d_jdk_52_16_3 : decode jdk_52_method_16_code 3 = .ok (.astore_n 3, 1) := by decide +kernel
theorem d_jdk_52_16_4 : decode jdk_52_method_16_code 4 = .ok (.aload_n 0, 1) := by decide +kernel
theorem d_jdk_52_16_5 : decode jdk_52_method_16_code 5 = .ok (.iload_n 1, 1) := by decide +kernel
theorem d_jdk_52_16_6 : decode jdk_52_method_16_code 6 = .ok (.aload_n 3, 1) := by decide +kernel
theorem d_jdk_52_16_7 : decode jdk_52_method_16_code 7 = .ok (.iconst 0, 1) := by decide +kernel
theorem d_jdk_52_16_8 : decode jdk_52_method_16_code 8 = .ok (.iload_n 2, 1) := by decide +kernel
theorem d_jdk_52_16_9 : decode jdk_52_method_16_code 9 = .ok (.invokestatic 115, 3) := by decide +kernel
theorem d_jdk_52_16_12 : decode jdk_52_method_16_code 12 = .ok (.istore 4, 2) := by decide +kernel
theorem d_jdk_52_16_14 : decode jdk_52_method_16_code 14 = .ok (.iload 4, 2) := by decide +kernel
theorem d_jdk_52_16_16 : decode jdk_52_method_16_code 16 = .ok (.iload_n 2, 1) := by decide +kernel
theorem d_jdk_52_16_17 : decode jdk_52_method_16_code 17 = .ok (.if_icmp .eq 40, 3) := by decide +kernel
theorem d_jdk_52_16_20 : decode jdk_52_method_16_code 20 = .ok (.aload_n 0, 1) := by decide +kernel
theorem d_jdk_52_16_21 : decode jdk_52_method_16_code 21 = .ok (.iload_n 1, 1) := by decide +kernel
theorem d_jdk_52_16_22 : decode jdk_52_method_16_code 22 = .ok (.iload_n 2, 1) := by decide +kernel
theorem d_jdk_52_16_23 : decode jdk_52_method_16_code 23 = .ok (.invokestatic 119, 3) := by decide +kernel
theorem d_jdk_52_16_26 : decode jdk_52_method_16_code 26 = .ok (.astore 5, 2) := by decide +kernel
theorem d_jdk_52_16_28 : decode jdk_52_method_16_code 28 = .ok (.aload 5, 2) := by decide +kernel
theorem d_jdk_52_16_30 : decode jdk_52_method_16_code 30 = .ok (.iload 4, 2) := by decide +kernel
theorem d_jdk_52_16_32 : decode jdk_52_method_16_code 32 = .ok (.invokestatic 71, 3) := by decide +kernel
theorem d_jdk_52_16_35 : decode jdk_52_method_16_code 35 = .ok (.sipush 255, 3) := by decide +kernel
theorem d_jdk_52_16_38 : decode jdk_52_method_16_code 38 = .ok (.if_icmp .gt 16, 3) := by decide +kernel
theorem d_jdk_52_16_54 : decode jdk_52_method_16_code 54 = .ok (.aload 5, 2) := by decide +kernel
theorem d_jdk_52_16_56 : decode jdk_52_method_16_code 56 = .ok (.areturn, 1) := by decide +kernel
theorem d_jdk_52_16_57 : decode jdk_52_method_16_code 57 = .ok (.aload_n 3, 1) := by decide +kernel
theorem d_jdk_52_16_58 : decode jdk_52_method_16_code 58 = .ok (.areturn, 1) := by decide +kernel
theorem d_jdk_52_21_0 : decode jdk_52_method_21_code 0 = .ok (.iconst 0, 1) := by decide +kernel
theorem d_jdk_52_21_1 : decode jdk_52_method_21_code 1 = .ok (.istore 5, 2) := by decide +kernel
theorem d_jdk_52_21_3 : decode jdk_52_method_21_code 3 = .ok (.iload 5, 2) := by decide +kernel
theorem d_jdk_52_21_5 : decode jdk_52_method_21_code 5 = .ok (.iload 4, 2) := by decide +kernel
theorem d_jdk_52_21_7 : decode jdk_52_method_21_code 7 = .ok (.if_icmp .ge 37, 3) := by decide +kernel
theorem d_jdk_52_21_10 : decode jdk_52_method_21_code 10 = .ok (.aload_n 0, 1) := by decide +kernel
theorem d_jdk_52_21_11 : decode jdk_52_method_21_code 11 = .ok (.iload_n 1, 1) := by decide +kernel
theorem d_jdk_52_21_12 : decode jdk_52_method_21_code 12 = .ok (.caload, 1) := by decide +kernel
theorem d_jdk_52_21_13 : decode jdk_52_method_21_code 13 = .ok (.istore 6, 2) := by decide +kernel
theorem d_jdk_52_21_15 : decode jdk_52_method_21_code 15 = .ok (.iload 6, 2) := by decide +kernel
theorem d_jdk_52_21_17 : decode jdk_52_method_21_code 17 = .ok (.sipush 255, 3) := by decide +kernel
theorem d_jdk_52_21_20 : decode jdk_52_method_21_code 20 = .ok (.if_icmp .le 6, 3) := by decide +kernel
theorem d_jdk_52_21_23 : decode jdk_52_method_21_code 23 = .ok (.iload 5, 2) := by decide +kernel
theorem d_jdk_52_21_25 : decode jdk_52_method_21_code 25 = .ok (.ireturn, 1) := by decide +kernel
theorem d_jdk_52_21_26 : decode jdk_52_method_21_code 26 = .ok (.aload_n 2, 1) := by decide +kernel
theorem d_jdk_52_21_27 : decode jdk_52_method_21_code 27 = .ok (.iload_n 3, 1) := by decide +kernel
theorem d_jdk_52_21_28 : decode jdk_52_method_21_code 28 = .ok (.iload 6, 2) := by decide +kernel
theorem d_jdk_52_21_30 : decode jdk_52_method_21_code 30 = .ok (.i2b, 1) := by decide +kernel
theorem d_jdk_52_21_31 : decode jdk_52_method_21_code 31 = .ok (.bastore, 1) := by decide +kernel
theorem d_jdk_52_21_32 : decode jdk_52_method_21_code 32 = .ok (.iinc 1 1, 3) := by decide +kernel
theorem d_jdk_52_21_35 : decode jdk_52_method_21_code 35 = .ok (.iinc 3 1, 3) := by decide +kernel
theorem d_jdk_52_21_38 : decode jdk_52_method_21_code 38 = .ok (.iinc 5 1, 3) := by decide +kernel
theorem d_jdk_52_21_41 : decode jdk_52_method_21_code 41 = .ok (.goto (-38), 3) := by decide +kernel
theorem d_jdk_52_21_44 : decode jdk_52_method_21_code 44 = .ok (.iload 4, 2) := by decide +kernel
theorem d_jdk_52_21_46 : decode jdk_52_method_21_code 46 = .ok (.ireturn, 1) := by decide +kernel
theorem d_jdk_52_24_0 : decode jdk_52_method_24_code 0 = .ok (.iconst 2, 1) := by decide +kernel
theorem d_jdk_52_24_1 : decode jdk_52_method_24_code 1 = .ok (.newarray .byte, 2) := by decide +kernel
theorem d_jdk_52_24_3 : decode jdk_52_method_24_code 3 = .ok (.astore_n 1, 1) := by decide +kernel
theorem d_jdk_52_24_4 : decode jdk_52_method_24_code 4 = .ok (.aload_n 1, 1) := by decide +kernel
theorem d_jdk_52_24_5 : decode jdk_52_method_24_code 5 = .ok (.iconst 0, 1) := by decide +kernel
theorem d_jdk_52_24_6 : decode jdk_52_method_24_code 6 = .ok (.iload_n 0, 1) := by decide +kernel
theorem d_jdk_52_24_7 : decode jdk_52_method_24_code 7 = .ok (.invokestatic 111, 3) := by decide +kernel
theorem d_jdk_52_24_10 : decode jdk_52_method_24_code 10 = .ok (.aload_n 1, 1) := by decide +kernel
theorem d_jdk_52_24_11 : decode jdk_52_method_24_code 11 = .ok (.areturn, 1) := by decide +kernel
theorem d_jdk_52_2_0 : decode jdk_52_method_2_code 0 = .ok (.iload_n 0, 1) := by decide +kernel
theorem d_jdk_52_2_1 : decode jdk_52_method_2_code 1 = .ok (.invokestatic 11, 3) := by decide +kernel
theorem d_jdk_52_2_4 : decode jdk_52_method_2_code 4 = .ok (.newarray .byte, 2) := by decide +kernel
theorem d_jdk_52_2_6 : decode jdk_52_method_2_code 6 = .ok (.areturn, 1) := by decide +kernel
theorem d_jdk_52_3_0 : decode jdk_52_method_3_code 0 = .ok (.iload_n 0, 1) := by decide +kernel
theorem d_jdk_52_3_1 : decode jdk_52_method_3_code 1 = .ok (.ifCond .ge 11, 3) := by decide +kernel
theorem d_jdk_52_3_12 : decode jdk_52_method_3_code 12 = .ok (.iload_n 0, 1) := by decide +kernel
theorem d_jdk_52_3_13 : decode jdk_52_method_3_code 13 = .ok (.ldc 20, 2) := by decide +kernel
theorem d_jdk_52_3_15 : decode jdk_52_method_3_code 15 = .ok (.if_icmp .lt 40, 3) := by decide +kernel
theorem d_jdk_52_3_55 : decode jdk_52_method_3_code 55 = .ok (.iload_n 0, 1) := by decide +kernel
theorem d_jdk_52_3_56 : decode jdk_52_method_3_code 56 = .ok (.iconst 1, 1) := by decide +kernel
theorem d_jdk_52_3_57 : decode jdk_52_method_3_code 57 = .ok (.ishl, 1) := by decide +kernel
theorem d_jdk_52_3_58 : decode jdk_52_method_3_code 58 = .ok (.ireturn, 1) := by decide +kernel
theorem d_jdk_52_4_0 : decode jdk_52_method_4_code 0 = .ok (.getstatic 44, 3) := by decide +kernel
theorem d_jdk_52_4_3 : decode jdk_52_method_4_code 3 = .ok (.ifCond .ne 25, 3) := by decide +kernel
theorem d_jdk_52_4_28 : decode jdk_52_method_4_code 28 = .ok (.iload_n 1, 1) := by decide +kernel
theorem d_jdk_52_4_29 : decode jdk_52_method_4_code 29 = .ok (.iconst 1, 1) := by decide +kernel
theorem d_jdk_52_4_30 : decode jdk_52_method_4_code 30 = .ok (.ishl, 1) := by decide +kernel
theorem d_jdk_52_4_31 : decode jdk_52_method_4_code 31 = .ok (.istore_n 1, 1) := by decide +kernel
theorem d_jdk_52_4_32 : decode jdk_52_method_4_code 32 = .ok (.aload_n 0, 1) := by decide +kernel
theorem d_jdk_52_4_33 : decode jdk_52_method_4_code 33 = .ok (.iload_n 1, 1) := by decide +kernel
theorem d_jdk_52_4_34 : decode jdk_52_method_4_code 34 = .ok (.iinc 1 1, 3) := by decide +kernel
theorem d_jdk_52_4_37 : decode jdk_52_method_4_code 37 = .ok (.iload_n 2, 1) := by decide +kernel
theorem d_jdk_52_4_38 : decode jdk_52_method_4_code 38 = .ok (.getstatic 59, 3) := by decide +kernel
theorem d_jdk_52_4_41 : decode jdk_52_method_4_code 41 = .ok (.ishr, 1) := by decide +kernel
theorem d_jdk_52_4_42 : decode jdk_52_method_4_code 42 = .ok (.i2b, 1) := by decide +kernel
theorem d_jdk_52_4_43 : decode jdk_52_method_4_code 43 = .ok (.bastore, 1) := by decide +kernel
theorem d_jdk_52_4_44 : decode jdk_52_method_4_code 44 = .ok (.aload_n 0, 1) := by decide +kernel
theorem d_jdk_52_4_45 : decode jdk_52_method_4_code 45 = .ok (.iload_n 1, 1) := by decide +kernel
theorem d_jdk_52_4_46 : decode jdk_52_method_4_code 46 = .ok (.iload_n 2, 1) := by decide +kernel
theorem d_jdk_52_4_47 : decode jdk_52_method_4_code 47 = .ok (.getstatic 63, 3) := by decide +kernel
theorem d_jdk_52_4_50 : decode jdk_52_method_4_code 50 = .ok (.ishr, 1) := by decide +kernel
theorem d_jdk_52_4_51 : decode jdk_52_method_4_code 51 = .ok (.i2b, 1) := by decide +kernel
theorem d_jdk_52_4_52 : decode jdk_52_method_4_code 52 = .ok (.bastore, 1) := by decide +kernel
theorem d_jdk_52_4_53 : decode jdk_52_method_4_code 53 = .ok (.return_, 1) := by decide +kernel
theorem d_jdk_52_5_0 : decode jdk_52_method_5_code 0 = .ok (.getstatic 44, 3) := by decide +kernel
theorem d_jdk_52_5_3 : decode jdk_52_method_5_code 3 = .ok (.ifCond .ne 25, 3) := by decide +kernel
theorem d_jdk_52_5_28 : decode jdk_52_method_5_code 28 = .ok (.iload_n 1, 1) := by decide +kernel
theorem d_jdk_52_5_29 : decode jdk_52_method_5_code 29 = .ok (.iconst 1, 1) := by decide +kernel
theorem d_jdk_52_5_30 : decode jdk_52_method_5_code 30 = .ok (.ishl, 1) := by decide +kernel
theorem d_jdk_52_5_31 : decode jdk_52_method_5_code 31 = .ok (.istore_n 1, 1) := by decide +kernel
theorem d_jdk_52_5_32 : decode jdk_52_method_5_code 32 = .ok (.aload_n 0, 1) := by decide +kernel
theorem d_jdk_52_5_33 : decode jdk_52_method_5_code 33 = .ok (.iload_n 1, 1) := by decide +kernel
theorem d_jdk_52_5_34 : decode jdk_52_method_5_code 34 = .ok (.iinc 1 1, 3) := by decide +kernel
theorem d_jdk_52_5_37 : decode jdk_52_method_5_code 37 = .ok (.baload, 1) := by decide +kernel
theorem d_jdk_52_5_38 : decode jdk_52_method_5_code 38 = .ok (.sipush 255, 3) := by decide +kernel
theorem d_jdk_52_5_41 : decode jdk_52_method_5_code 41 = .ok (.iand, 1) := by decide +kernel
theorem d_jdk_52_5_42 : decode jdk_52_method_5_code 42 = .ok (.getstatic 59, 3) := by decide +kernel
theorem d_jdk_52_5_45 : decode jdk_52_method_5_code 45 = .ok (.ishl, 1) := by decide +kernel
theorem d_jdk_52_5_46 : decode jdk_52_method_5_code 46 = .ok (.aload_n 0, 1) := by decide +kernel
theorem d_jdk_52_5_47 : decode jdk_52_method_5_code 47 = .ok (.iload_n 1, 1) := by decide +kernel
theorem d_jdk_52_5_48 : decode jdk_52_method_5_code 48 = .ok (.baload, 1) := by decide +kernel
theorem d_jdk_52_5_49 : decode jdk_52_method_5_code 49 = .ok (.sipush 255, 3) := by decide +kernel
theorem d_jdk_52_5_52 : decode jdk_52_method_5_code 52 = .ok (.iand, 1) := by decide +kernel
theorem d_jdk_52_5_53 : decode jdk_52_method_5_code 53 = .ok (.getstatic 63, 3) := by decide +kernel
theorem d_jdk_52_5_56 : decode jdk_52_method_5_code 56 = .ok (.ishl, 1) := by decide +kernel
theorem d_jdk_52_5_57 : decode jdk_52_method_5_code 57 = .ok (.ior, 1) := by decide +kernel
theorem d_jdk_52_5_58 : decode jdk_52_method_5_code 58 = .ok (.i2c, 1) := by decide +kernel
theorem d_jdk_52_5_59 : decode jdk_52_method_5_code 59 = .ok (.ireturn, 1) := by decide +kernel
theorem d_jdk_52_6_0 : decode jdk_52_method_6_code 0 = .ok (.aload_n 0, 1) := by decide +kernel
theorem d_jdk_52_6_1 : decode jdk_52_method_6_code 1 = .ok (.arraylength, 1) := by decide +kernel
theorem d_jdk_52_6_2 : decode jdk_52_method_6_code 2 = .ok (.iconst 1, 1) := by decide +kernel
theorem d_jdk_52_6_3 : decode jdk_52_method_6_code 3 = .ok (.ishr, 1) := by decide +kernel
theorem d_jdk_52_6_4 : decode jdk_52_method_6_code 4 = .ok (.ireturn, 1) := by decide +kernel
theorem d_jdk_52_83_0 : decode jdk_52_method_83_code 0 = .ok (.iload_n 1, 1) := by decide +kernel
theorem d_jdk_52_83_1 : decode jdk_52_method_83_code 1 = .ok (.aload_n 0, 1) := by decide +kernel
theorem d_jdk_52_83_2 : decode jdk_52_method_83_code 2 = .ok (.invokestatic 67, 3) := by decide +kernel
theorem d_jdk_52_83_5 : decode jdk_52_method_83_code 5 = .ok (.aload_n 0, 1) := by decide +kernel
theorem d_jdk_52_83_6 : decode jdk_52_method_83_code 6 = .ok (.iload_n 1, 1) := by decide +kernel
theorem d_jdk_52_83_7 : decode jdk_52_method_83_code 7 = .ok (.invokestatic 71, 3) := by decide +kernel
theorem d_jdk_52_83_10 : decode jdk_52_method_83_code 10 = .ok (.ireturn, 1) := by decide +kernel
theorem d_jdk_52_91_0 : decode jdk_52_method_91_code 0 = .ok (.iload_n 0, 1) := by decide +kernel
theorem d_jdk_52_91_1 : decode jdk_52_method_91_code 1 = .ok (.aload_n 1, 1) := by decide +kernel
theorem d_jdk_52_91_2 : decode jdk_52_method_91_code 2 = .ok (.invokestatic 48, 3) := by decide +kernel
theorem d_jdk_52_91_5 : decode jdk_52_method_91_code 5 = .ok (.invokestatic 414, 3) := by decide +kernel
theorem d_jdk_52_91_8 : decode jdk_52_method_91_code 8 = .ok (.return_, 1) := by decide +kernel
theorem d_jdk_89_16_0 : decode jdk_89_method_16_code 0 = .ok (.iload_n 0, 1) := by decide +kernel
theorem d_jdk_89_16_1 : decode jdk_89_method_16_code 1 = .ok (.ldc 75, 2) := by decide +kernel
theorem d_jdk_89_16_3 : decode jdk_89_method_16_code 3 = .ok (.if_icmp .lt 13, 3) := by decide +kernel
theorem d_jdk_89_16_6 : decode jdk_89_method_16_code 6 = .ok (.iload_n 0, 1) := by decide +kernel
theorem d_jdk_89_16_7 : decode jdk_89_method_16_code 7 = .ok (.ldc 77, 2) := by decide +kernel
theorem d_jdk_89_16_9 : decode jdk_89_method_16_code 9 = .ok (.if_icmp .ge 7, 3) := by decide +kernel
theorem d_jdk_89_16_12 : decode jdk_89_method_16_code 12 = .ok (.iconst 1, 1) := by decide +kernel
theorem d_jdk_89_16_13 : decode jdk_89_method_16_code 13 = .ok (.goto 4, 3) := by decide +kernel
theorem d_jdk_89_16_16 : decode jdk_89_method_16_code 16 = .ok (.iconst 0, 1) := by decide +kernel
theorem d_jdk_89_16_17 : decode jdk_89_method_16_code 17 = .ok (.ireturn, 1) := by decide +kernel
theorem d_3_0 : decode method_3_code 0 = .ok (.iload_n 0, 1) := by decide +kernel
theorem d_3_1 : decode method_3_code 1 = .ok (.ldc 26, 2) := by decide +kernel
theorem d_3_3 : decode method_3_code 3 = .ok (.iand, 1) := by decide +kernel
theorem d_3_4 : decode method_3_code 4 = .ok (.ldc 27, 2) := by decide +kernel
theorem d_3_6 : decode method_3_code 6 = .ok (.irem, 1) := by decide +kernel
theorem d_3_7 : decode method_3_code 7 = .ok (.istore_n 1, 1) := by decide +kernel
theorem d_3_8 : decode method_3_code 8 = .ok (.iload_n 1, 1) := by decide +kernel
theorem d_3_9 : decode method_3_code 9 = .ok (.ldc 28, 2) := by decide +kernel
theorem d_3_11 : decode method_3_code 11 = .ok (.if_icmp .lt 9, 3) := by decide +kernel
theorem d_3_14 : decode method_3_code 14 = .ok (.iload_n 1, 1) := by decide +kernel
theorem d_3_15 : decode method_3_code 15 = .ok (.sipush 2048, 3) := by decide +kernel
theorem d_3_18 : decode method_3_code 18 = .ok (.iadd, 1) := by decide +kernel
theorem d_3_19 : decode method_3_code 19 = .ok (.istore_n 1, 1) := by decide +kernel
theorem d_3_20 : decode method_3_code 20 = .ok (.iload_n 1, 1) := by decide +kernel
theorem d_3_21 : decode method_3_code 21 = .ok (.ireturn, 1) := by decide +kernel
theorem d_4_0 : decode method_4_code 0 = .ok (.iload_n 0, 1) := by decide +kernel
theorem d_4_1 : decode method_4_code 1 = .ok (.ifCond .ge 5, 3) := by decide +kernel
theorem d_4_4 : decode method_4_code 4 = .ok (.iconst (-1), 1) := by decide +kernel
theorem d_4_5 : decode method_4_code 5 = .ok (.ireturn, 1) := by decide +kernel
theorem d_4_6 : decode method_4_code 6 = .ok (.iload_n 0, 1) := by decide +kernel
theorem d_4_7 : decode method_4_code 7 = .ok (.ifCond .le 5, 3) := by decide +kernel
theorem d_4_10 : decode method_4_code 10 = .ok (.iconst 1, 1) := by decide +kernel
theorem d_4_11 : decode method_4_code 11 = .ok (.ireturn, 1) := by decide +kernel
theorem d_4_12 : decode method_4_code 12 = .ok (.iconst 0, 1) := by decide +kernel
theorem d_4_13 : decode method_4_code 13 = .ok (.ireturn, 1) := by decide +kernel
theorem d_5_0 : decode method_5_code 0 = .ok (.ldc 28, 2) := by decide +kernel
theorem d_5_2 : decode method_5_code 2 = .ok (.iload_n 0, 1) := by decide +kernel
theorem d_5_3 : decode method_5_code 3 = .ok (.ldc 29, 2) := by decide +kernel
theorem d_5_5 : decode method_5_code 5 = .ok (.isub, 1) := by decide +kernel
theorem d_5_6 : decode method_5_code 6 = .ok (.bipush 10, 2) := by decide +kernel
theorem d_5_8 : decode method_5_code 8 = .ok (.ishr, 1) := by decide +kernel
theorem d_5_9 : decode method_5_code 9 = .ok (.iadd, 1) := by decide +kernel
theorem d_5_10 : decode method_5_code 10 = .ok (.i2c, 1) := by decide +kernel
theorem d_5_11 : decode method_5_code 11 = .ok (.ireturn, 1) := by decide +kernel
theorem d_6_0 : decode method_6_code 0 = .ok (.ldc 30, 2) := by decide +kernel
theorem d_6_2 : decode method_6_code 2 = .ok (.iload_n 0, 1) := by decide +kernel
theorem d_6_3 : decode method_6_code 3 = .ok (.sipush 1023, 3) := by decide +kernel
theorem d_6_6 : decode method_6_code 6 = .ok (.iand, 1) := by decide +kernel
theorem d_6_7 : decode method_6_code 7 = .ok (.iadd, 1) := by decide +kernel
theorem d_6_8 : decode method_6_code 8 = .ok (.i2c, 1) := by decide +kernel
theorem d_6_9 : decode method_6_code 9 = .ok (.ireturn, 1) := by decide +kernel
theorem d_7_0 : decode method_7_code 0 = .ok (.iload_n 0, 1) := by decide +kernel
theorem d_7_1 : decode method_7_code 1 = .ok (.ldc 29, 2) := by decide +kernel
theorem d_7_3 : decode method_7_code 3 = .ok (.if_icmp .ge 9, 3) := by decide +kernel
theorem d_7_6 : decode method_7_code 6 = .ok (.iload_n 0, 1) := by decide +kernel
theorem d_7_7 : decode method_7_code 7 = .ok (.i2c, 1) := by decide +kernel
theorem d_7_8 : decode method_7_code 8 = .ok (.invokestatic 31, 3) := by decide +kernel
theorem d_7_11 : decode method_7_code 11 = .ok (.areturn, 1) := by decide +kernel
theorem d_7_12 : decode method_7_code 12 = .ok (.new 32, 3) := by decide +kernel
theorem d_7_15 : decode method_7_code 15 = .ok (.dup, 1) := by decide +kernel
theorem d_7_16 : decode method_7_code 16 = .ok (.iconst 2, 1) := by decide +kernel
theorem d_7_17 : decode method_7_code 17 = .ok (.newarray .char, 2) := by decide +kernel
theorem d_7_19 : decode method_7_code 19 = .ok (.dup, 1) := by decide +kernel
theorem d_7_20 : decode method_7_code 20 = .ok (.iconst 0, 1) := by decide +kernel
theorem d_7_21 : decode method_7_code 21 = .ok (.iload_n 0, 1) := by decide +kernel
theorem d_7_22 : decode method_7_code 22 = .ok (.invokestatic 37, 3) := by decide +kernel
theorem d_7_25 : decode method_7_code 25 = .ok (.castore, 1) := by decide +kernel
theorem d_7_26 : decode method_7_code 26 = .ok (.dup, 1) := by decide +kernel
theorem d_7_27 : decode method_7_code 27 = .ok (.iconst 1, 1) := by decide +kernel
theorem d_7_28 : decode method_7_code 28 = .ok (.iload_n 0, 1) := by decide +kernel
theorem d_7_29 : decode method_7_code 29 = .ok (.invokestatic 41, 3) := by decide +kernel
theorem d_7_32 : decode method_7_code 32 = .ok (.castore, 1) := by decide +kernel
theorem d_7_33 : decode method_7_code 33 = .ok (.invokespecial 44, 3) := by decide +kernel
theorem d_7_36 : decode method_7_code 36 = .ok (.areturn, 1) := by decide +kernel
theorem d_8_0 : decode method_8_code 0 = .ok (.iload_n 2, 1) := by decide +kernel
theorem d_8_1 : decode method_8_code 1 = .ok (.ifCond .ne 14, 3) := by decide +kernel
theorem d_8_4 : decode method_8_code 4 = .ok (.new 32, 3) := by decide +kernel
theorem d_8_7 : decode method_8_code 7 = .ok (.dup, 1) := by decide +kernel
theorem d_8_8 : decode method_8_code 8 = .ok (.iconst 0, 1) := by decide +kernel
theorem d_8_9 : decode method_8_code 9 = .ok (.newarray .char, 2) := by decide +kernel
theorem d_8_11 : decode method_8_code 11 = .ok (.invokespecial 44, 3) := by decide +kernel
theorem d_8_14 : decode method_8_code 14 = .ok (.areturn, 1) := by decide +kernel
theorem d_8_15 : decode method_8_code 15 = .ok (.iload_n 2, 1) := by decide +kernel
theorem d_8_16 : decode method_8_code 16 = .ok (.iconst 1, 1) := by decide +kernel
theorem d_8_17 : decode method_8_code 17 = .ok (.if_icmp .ne 8, 3) := by decide +kernel
theorem d_8_20 : decode method_8_code 20 = .ok (.iload_n 0, 1) := by decide +kernel
theorem d_8_21 : decode method_8_code 21 = .ok (.invokestatic 47, 3) := by decide +kernel
theorem d_8_24 : decode method_8_code 24 = .ok (.areturn, 1) := by decide +kernel
theorem d_8_25 : decode method_8_code 25 = .ok (.iload_n 0, 1) := by decide +kernel
theorem d_8_26 : decode method_8_code 26 = .ok (.ldc 29, 2) := by decide +kernel
theorem d_8_28 : decode method_8_code 28 = .ok (.if_icmp .lt 7, 3) := by decide +kernel
theorem d_8_31 : decode method_8_code 31 = .ok (.iconst 1, 1) := by decide +kernel
theorem d_8_32 : decode method_8_code 32 = .ok (.goto 4, 3) := by decide +kernel
theorem d_8_35 : decode method_8_code 35 = .ok (.iconst 0, 1) := by decide +kernel
theorem d_8_36 : decode method_8_code 36 = .ok (.istore_n 3, 1) := by decide +kernel
theorem d_8_37 : decode method_8_code 37 = .ok (.iload_n 1, 1) := by decide +kernel
theorem d_8_38 : decode method_8_code 38 = .ok (.ldc 29, 2) := by decide +kernel
theorem d_8_40 : decode method_8_code 40 = .ok (.if_icmp .lt 7, 3) := by decide +kernel
theorem d_8_43 : decode method_8_code 43 = .ok (.iconst 1, 1) := by decide +kernel
theorem d_8_44 : decode method_8_code 44 = .ok (.goto 4, 3) := by decide +kernel
theorem d_8_47 : decode method_8_code 47 = .ok (.iconst 0, 1) := by decide +kernel
theorem d_8_48 : decode method_8_code 48 = .ok (.istore 4, 2) := by decide +kernel
theorem d_8_50 : decode method_8_code 50 = .ok (.iload_n 3, 1) := by decide +kernel
theorem d_8_51 : decode method_8_code 51 = .ok (.ifCond .ne 29, 3) := by decide +kernel
theorem d_8_54 : decode method_8_code 54 = .ok (.iload 4, 2) := by decide +kernel
theorem d_8_56 : decode method_8_code 56 = .ok (.ifCond .ne 24, 3) := by decide +kernel
theorem d_8_59 : decode method_8_code 59 = .ok (.new 32, 3) := by decide +kernel
theorem d_8_62 : decode method_8_code 62 = .ok (.dup, 1) := by decide +kernel
theorem d_8_63 : decode method_8_code 63 = .ok (.iconst 2, 1) := by decide +kernel
theorem d_8_64 : decode method_8_code 64 = .ok (.newarray .char, 2) := by decide +kernel
theorem d_8_66 : decode method_8_code 66 = .ok (.dup, 1) := by decide +kernel
theorem d_8_67 : decode method_8_code 67 = .ok (.iconst 0, 1) := by decide +kernel
theorem d_8_68 : decode method_8_code 68 = .ok (.iload_n 0, 1) := by decide +kernel
theorem d_8_69 : decode method_8_code 69 = .ok (.i2c, 1) := by decide +kernel
theorem d_8_70 : decode method_8_code 70 = .ok (.castore, 1) := by decide +kernel
theorem d_8_71 : decode method_8_code 71 = .ok (.dup, 1) := by decide +kernel
theorem d_8_72 : decode method_8_code 72 = .ok (.iconst 1, 1) := by decide +kernel
theorem d_8_73 : decode method_8_code 73 = .ok (.iload_n 1, 1) := by decide +kernel
theorem d_8_74 : decode method_8_code 74 = .ok (.i2c, 1) := by decide +kernel
theorem d_8_75 : decode method_8_code 75 = .ok (.castore, 1) := by decide +kernel
theorem d_8_76 : decode method_8_code 76 = .ok (.invokespecial 44, 3) := by decide +kernel
theorem d_8_79 : decode method_8_code 79 = .ok (.areturn, 1) := by decide +kernel
theorem d_8_80 : decode method_8_code 80 = .ok (.iload_n 3, 1) := by decide +kernel
theorem d_8_81 : decode method_8_code 81 = .ok (.ifCond .eq 38, 3) := by decide +kernel
theorem d_8_84 : decode method_8_code 84 = .ok (.iload 4, 2) := by decide +kernel
theorem d_8_86 : decode method_8_code 86 = .ok (.ifCond .ne 33, 3) := by decide +kernel
theorem d_8_89 : decode method_8_code 89 = .ok (.new 32, 3) := by decide +kernel
theorem d_8_92 : decode method_8_code 92 = .ok (.dup, 1) := by decide +kernel
theorem d_8_93 : decode method_8_code 93 = .ok (.iconst 3, 1) := by decide +kernel
theorem d_8_94 : decode method_8_code 94 = .ok (.newarray .char, 2) := by decide +kernel
theorem d_8_96 : decode method_8_code 96 = .ok (.dup, 1) := by decide +kernel
theorem d_8_97 : decode method_8_code 97 = .ok (.iconst 0, 1) := by decide +kernel
theorem d_8_98 : decode method_8_code 98 = .ok (.iload_n 0, 1) := by decide +kernel
theorem d_8_99 : decode method_8_code 99 = .ok (.invokestatic 37, 3) := by decide +kernel
theorem d_8_102 : decode method_8_code 102 = .ok (.castore, 1) := by decide +kernel
theorem d_8_103 : decode method_8_code 103 = .ok (.dup, 1) := by decide +kernel
theorem d_8_104 : decode method_8_code 104 = .ok (.iconst 1, 1) := by decide +kernel
theorem d_8_105 : decode method_8_code 105 = .ok (.iload_n 0, 1) := by decide +kernel
theorem d_8_106 : decode method_8_code 106 = .ok (.invokestatic 41, 3) := by decide +kernel
theorem d_8_109 : decode method_8_code 109 = .ok (.castore, 1) := by decide +kernel
theorem d_8_110 : decode method_8_code 110 = .ok (.dup, 1) := by decide +kernel
theorem d_8_111 : decode method_8_code 111 = .ok (.iconst 2, 1) := by decide +kernel
theorem d_8_112 : decode method_8_code 112 = .ok (.iload_n 1, 1) := by decide +kernel
theorem d_8_113 : decode method_8_code 113 = .ok (.i2c, 1) := by decide +kernel
theorem d_8_114 : decode method_8_code 114 = .ok (.castore, 1) := by decide +kernel
theorem d_8_115 : decode method_8_code 115 = .ok (.invokespecial 44, 3) := by decide +kernel
theorem d_8_118 : decode method_8_code 118 = .ok (.areturn, 1) := by decide +kernel
theorem d_8_119 : decode method_8_code 119 = .ok (.iload_n 3, 1) := by decide +kernel
theorem d_8_120 : decode method_8_code 120 = .ok (.ifCond .ne 38, 3) := by decide +kernel
theorem d_8_123 : decode method_8_code 123 = .ok (.iload 4, 2) := by decide +kernel
theorem d_8_125 : decode method_8_code 125 = .ok (.ifCond .eq 33, 3) := by decide +kernel
theorem d_8_128 : decode method_8_code 128 = .ok (.new 32, 3) := by decide +kernel
theorem d_8_131 : decode method_8_code 131 = .ok (.dup, 1) := by decide +kernel
theorem d_8_132 : decode method_8_code 132 = .ok (.iconst 3, 1) := by decide +kernel
theorem d_8_133 : decode method_8_code 133 = .ok (.newarray .char, 2) := by decide +kernel
theorem d_8_135 : decode method_8_code 135 = .ok (.dup, 1) := by decide +kernel
theorem d_8_136 : decode method_8_code 136 = .ok (.iconst 0, 1) := by decide +kernel
theorem d_8_137 : decode method_8_code 137 = .ok (.iload_n 0, 1) := by decide +kernel
theorem d_8_138 : decode method_8_code 138 = .ok (.i2c, 1) := by decide +kernel
theorem d_8_139 : decode method_8_code 139 = .ok (.castore, 1) := by decide +kernel
theorem d_8_140 : decode method_8_code 140 = .ok (.dup, 1) := by decide +kernel
theorem d_8_141 : decode method_8_code 141 = .ok (.iconst 1, 1) := by decide +kernel
theorem d_8_142 : decode method_8_code 142 = .ok (.iload_n 1, 1) := by decide +kernel
theorem d_8_143 : decode method_8_code 143 = .ok (.invokestatic 37, 3) := by decide +kernel
theorem d_8_146 : decode method_8_code 146 = .ok (.castore, 1) := by decide +kernel
theorem d_8_147 : decode method_8_code 147 = .ok (.dup, 1) := by decide +kernel
theorem d_8_148 : decode method_8_code 148 = .ok (.iconst 2, 1) := by decide +kernel
theorem d_8_149 : decode method_8_code 149 = .ok (.iload_n 1, 1) := by decide +kernel
theorem d_8_150 : decode method_8_code 150 = .ok (.invokestatic 41, 3) := by decide +kernel
theorem d_8_153 : decode method_8_code 153 = .ok (.castore, 1) := by decide +kernel
theorem d_8_154 : decode method_8_code 154 = .ok (.invokespecial 44, 3) := by decide +kernel
theorem d_8_157 : decode method_8_code 157 = .ok (.areturn, 1) := by decide +kernel
theorem d_8_158 : decode method_8_code 158 = .ok (.new 32, 3) := by decide +kernel
theorem d_8_161 : decode method_8_code 161 = .ok (.dup, 1) := by decide +kernel
theorem d_8_162 : decode method_8_code 162 = .ok (.iconst 4, 1) := by decide +kernel
theorem d_8_163 : decode method_8_code 163 = .ok (.newarray .char, 2) := by decide +kernel
theorem d_8_165 : decode method_8_code 165 = .ok (.dup, 1) := by decide +kernel
theorem d_8_166 : decode method_8_code 166 = .ok (.iconst 0, 1) := by decide +kernel
theorem d_8_167 : decode method_8_code 167 = .ok (.iload_n 0, 1) := by decide +kernel
theorem d_8_168 : decode method_8_code 168 = .ok (.invokestatic 37, 3) := by decide +kernel
theorem d_8_171 : decode method_8_code 171 = .ok (.castore, 1) := by decide +kernel
theorem d_8_172 : decode method_8_code 172 = .ok (.dup, 1) := by decide +kernel
theorem d_8_173 : decode method_8_code 173 = .ok (.iconst 1, 1) := by decide +kernel
theorem d_8_174 : decode method_8_code 174 = .ok (.iload_n 0, 1) := by decide +kernel
theorem d_8_175 : decode method_8_code 175 = .ok (.invokestatic 41, 3) := by decide +kernel
theorem d_8_178 : decode method_8_code 178 = .ok (.castore, 1) := by decide +kernel
theorem d_8_179 : decode method_8_code 179 = .ok (.dup, 1) := by decide +kernel
theorem d_8_180 : decode method_8_code 180 = .ok (.iconst 2, 1) := by decide +kernel
theorem d_8_181 : decode method_8_code 181 = .ok (.iload_n 1, 1) := by decide +kernel
theorem d_8_182 : decode method_8_code 182 = .ok (.invokestatic 37, 3) := by decide +kernel
theorem d_8_185 : decode method_8_code 185 = .ok (.castore, 1) := by decide +kernel
theorem d_8_186 : decode method_8_code 186 = .ok (.dup, 1) := by decide +kernel
theorem d_8_187 : decode method_8_code 187 = .ok (.iconst 3, 1) := by decide +kernel
theorem d_8_188 : decode method_8_code 188 = .ok (.iload_n 1, 1) := by decide +kernel
theorem d_8_189 : decode method_8_code 189 = .ok (.invokestatic 41, 3) := by decide +kernel
theorem d_8_192 : decode method_8_code 192 = .ok (.castore, 1) := by decide +kernel
theorem d_8_193 : decode method_8_code 193 = .ok (.invokespecial 44, 3) := by decide +kernel
theorem d_8_196 : decode method_8_code 196 = .ok (.areturn, 1) := by decide +kernel
theorem d_prog_42_2_0 : decode prog_42_method_2_code 0 = .ok (.aload_n 0, 1) := by decide +kernel
theorem d_prog_42_2_1 : decode prog_42_method_2_code 1 = .ok (.invokevirtual 7, 3) := by decide +kernel
theorem d_prog_42_2_4 : decode prog_42_method_2_code 4 = .ok (.aload_n 1, 1) := by decide +kernel
theorem d_prog_42_2_5 : decode prog_42_method_2_code 5 = .ok (.invokevirtual 7, 3) := by decide +kernel
theorem d_prog_42_2_8 : decode prog_42_method_2_code 8 = .ok (.invokestatic 13, 3) := by decide +kernel
theorem d_prog_42_2_11 : decode prog_42_method_2_code 11 = .ok (.istore_n 2, 1) := by decide +kernel
theorem d_prog_42_2_12 : decode prog_42_method_2_code 12 = .ok (.iconst 0, 1) := by decide +kernel
theorem d_prog_42_2_13 : decode prog_42_method_2_code 13 = .ok (.istore_n 3, 1) := by decide +kernel
theorem d_prog_42_2_14 : decode prog_42_method_2_code 14 = .ok (.iload_n 3, 1) := by decide +kernel
theorem d_prog_42_2_15 : decode prog_42_method_2_code 15 = .ok (.iload_n 2, 1) := by decide +kernel
theorem d_prog_42_2_16 : decode prog_42_method_2_code 16 = .ok (.if_icmp .ge 44, 3) := by decide +kernel
theorem d_prog_42_2_19 : decode prog_42_method_2_code 19 = .ok (.aload_n 0, 1) := by decide +kernel
theorem d_prog_42_2_20 : decode prog_42_method_2_code 20 = .ok (.iload_n 3, 1) := by decide +kernel
theorem d_prog_42_2_21 : decode prog_42_method_2_code 21 = .ok (.invokevirtual 19, 3) := by decide +kernel
theorem d_prog_42_2_24 : decode prog_42_method_2_code 24 = .ok (.istore 4, 2) := by decide +kernel
theorem d_prog_42_2_26 : decode prog_42_method_2_code 26 = .ok (.aload_n 1, 1) := by decide +kernel
theorem d_prog_42_2_27 : decode prog_42_method_2_code 27 = .ok (.iload_n 3, 1) := by decide +kernel
theorem d_prog_42_2_28 : decode prog_42_method_2_code 28 = .ok (.invokevirtual 19, 3) := by decide +kernel
theorem d_prog_42_2_31 : decode prog_42_method_2_code 31 = .ok (.istore 5, 2) := by decide +kernel
theorem d_prog_42_2_33 : decode prog_42_method_2_code 33 = .ok (.iload 4, 2) := by decide +kernel
theorem d_prog_42_2_35 : decode prog_42_method_2_code 35 = .ok (.iload 5, 2) := by decide +kernel
theorem d_prog_42_2_37 : decode prog_42_method_2_code 37 = .ok (.if_icmp .eq 17, 3) := by decide +kernel
theorem d_prog_42_2_40 : decode prog_42_method_2_code 40 = .ok (.iload 4, 2) := by decide +kernel
theorem d_prog_42_2_42 : decode prog_42_method_2_code 42 = .ok (.invokestatic 23, 3) := by decide +kernel
theorem d_prog_42_2_45 : decode prog_42_method_2_code 45 = .ok (.iload 5, 2) := by decide +kernel
theorem d_prog_42_2_47 : decode prog_42_method_2_code 47 = .ok (.invokestatic 23, 3) := by decide +kernel
theorem d_prog_42_2_50 : decode prog_42_method_2_code 50 = .ok (.invokestatic 29, 3) := by decide +kernel
theorem d_prog_42_2_53 : decode prog_42_method_2_code 53 = .ok (.ireturn, 1) := by decide +kernel
theorem d_prog_42_2_54 : decode prog_42_method_2_code 54 = .ok (.iinc 3 1, 3) := by decide +kernel
theorem d_prog_42_2_57 : decode prog_42_method_2_code 57 = .ok (.goto (-43), 3) := by decide +kernel
theorem d_prog_42_2_60 : decode prog_42_method_2_code 60 = .ok (.aload_n 0, 1) := by decide +kernel
theorem d_prog_42_2_61 : decode prog_42_method_2_code 61 = .ok (.invokevirtual 7, 3) := by decide +kernel
theorem d_prog_42_2_64 : decode prog_42_method_2_code 64 = .ok (.aload_n 1, 1) := by decide +kernel
theorem d_prog_42_2_65 : decode prog_42_method_2_code 65 = .ok (.invokevirtual 7, 3) := by decide +kernel
theorem d_prog_42_2_68 : decode prog_42_method_2_code 68 = .ok (.invokestatic 29, 3) := by decide +kernel
theorem d_prog_42_2_71 : decode prog_42_method_2_code 71 = .ok (.ireturn, 1) := by decide +kernel
theorem d_prog_42_3_0 : decode prog_42_method_3_code 0 = .ok (.iload_n 0, 1) := by decide +kernel
theorem d_prog_42_3_1 : decode prog_42_method_3_code 1 = .ok (.istore_n 1, 1) := by decide +kernel
theorem d_prog_42_3_2 : decode prog_42_method_3_code 2 = .ok (.iload_n 0, 1) := by decide +kernel
theorem d_prog_42_3_3 : decode prog_42_method_3_code 3 = .ok (.ldc 34, 2) := by decide +kernel
theorem d_prog_42_3_5 : decode prog_42_method_3_code 5 = .ok (.if_icmp .lt 12, 3) := by decide +kernel
theorem d_prog_42_3_8 : decode prog_42_method_3_code 8 = .ok (.iload_n 0, 1) := by decide +kernel
theorem d_prog_42_3_9 : decode prog_42_method_3_code 9 = .ok (.sipush 2048, 3) := by decide +kernel
theorem d_prog_42_3_12 : decode prog_42_method_3_code 12 = .ok (.isub, 1) := by decide +kernel
theorem d_prog_42_3_13 : decode prog_42_method_3_code 13 = .ok (.istore_n 1, 1) := by decide +kernel
theorem d_prog_42_3_14 : decode prog_42_method_3_code 14 = .ok (.goto 16, 3) := by decide +kernel
theorem d_prog_42_3_17 : decode prog_42_method_3_code 17 = .ok (.iload_n 0, 1) := by decide +kernel
theorem d_prog_42_3_18 : decode prog_42_method_3_code 18 = .ok (.invokestatic 35, 3) := by decide +kernel
theorem d_prog_42_3_21 : decode prog_42_method_3_code 21 = .ok (.ifCond .eq 9, 3) := by decide +kernel
theorem d_prog_42_3_24 : decode prog_42_method_3_code 24 = .ok (.iload_n 0, 1) := by decide +kernel
theorem d_prog_42_3_25 : decode prog_42_method_3_code 25 = .ok (.sipush 8192, 3) := by decide +kernel
theorem d_prog_42_3_28 : decode prog_42_method_3_code 28 = .ok (.iadd, 1) := by decide +kernel
theorem d_prog_42_3_29 : decode prog_42_method_3_code 29 = .ok (.istore_n 1, 1) := by decide +kernel
theorem d_prog_42_3_30 : decode prog_42_method_3_code 30 = .ok (.iload_n 1, 1) := by decide +kernel
theorem d_prog_42_3_31 : decode prog_42_method_3_code 31 = .ok (.ireturn, 1) := by decide +kernel
theorem pd_0 : parseMethodDescriptor "([CI[BII)I" = some ⟨[(.array .char), .int, (.array .byte), .int, .int], some .int⟩ := by decide +kernel
theorem pd_1 : parseMethodDescriptor "([CII)[B" = some ⟨[(.array .char), .int, .int], some (.array .byte)⟩ := by decide +kernel
theorem pd_2 : parseMethodDescriptor "([BI)B" = some ⟨[(.array .byte), .int], some .byte⟩ := by decide +kernel
theorem pd_3 : parseMethodDescriptor "(I)I" = some ⟨[.int], some .int⟩ := by decide +kernel
theorem pd_4 : parseMethodDescriptor "(I)[B" = some ⟨[.int], some (.array .byte)⟩ := by decide +kernel
theorem pd_5 : parseMethodDescriptor "([BII)V" = some ⟨[(.array .byte), .int, .int], none⟩ := by decide +kernel
theorem pd_6 : parseMethodDescriptor "([BI)C" = some ⟨[(.array .byte), .int], some .char⟩ := by decide +kernel
theorem pd_7 : parseMethodDescriptor "([CIILjava/lang/Void;)V" = some ⟨[(.array .char), .int, .int, (.object "java/lang/Void")], none⟩ := by decide +kernel
theorem pd_8 : parseMethodDescriptor "()B" = some ⟨[], some .byte⟩ := by decide +kernel
theorem pd_9 : parseMethodDescriptor "(IILjava/util/function/BiFunction;)I" = some ⟨[.int, .int, (.object "java/util/function/BiFunction")], some .int⟩ := by decide +kernel
theorem pd_10 : parseMethodDescriptor "(II)V" = some ⟨[.int, .int], none⟩ := by decide +kernel
theorem pd_11 : parseMethodDescriptor "([B)I" = some ⟨[(.array .byte)], some .int⟩ := by decide +kernel
theorem pd_12 : parseMethodDescriptor "(I[B)V" = some ⟨[.int, (.array .byte)], none⟩ := by decide +kernel
theorem pd_13 : parseMethodDescriptor "()Z" = some ⟨[], some .boolean⟩ := by decide +kernel
theorem pd_14 : parseMethodDescriptor "(C)Z" = some ⟨[.char], some .boolean⟩ := by decide +kernel
theorem pd_15 : parseMethodDescriptor "(C)[B" = some ⟨[.char], some (.array .byte)⟩ := by decide +kernel
theorem pd_16 : parseMethodDescriptor "([BB)V" = some ⟨[(.array .byte), .byte], none⟩ := by decide +kernel
theorem pd_17 : parseMethodDescriptor "(C)Ljava/lang/String;" = some ⟨[.char], some (.object "java/lang/String")⟩ := by decide +kernel
theorem pd_18 : parseMethodDescriptor "(I)C" = some ⟨[.int], some .char⟩ := by decide +kernel
theorem pd_19 : parseMethodDescriptor "([C)V" = some ⟨[(.array .char)], none⟩ := by decide +kernel
theorem pd_20 : parseMethodDescriptor "(I)Ljava/lang/String;" = some ⟨[.int], some (.object "java/lang/String")⟩ := by decide +kernel
theorem pd_21 : parseMethodDescriptor "()I" = some ⟨[], some .int⟩ := by decide +kernel
theorem pd_22 : parseMethodDescriptor "(II)I" = some ⟨[.int, .int], some .int⟩ := by decide +kernel
theorem pd_23 : parseMethodDescriptor "(C)I" = some ⟨[.char], some .int⟩ := by decide +kernel
theorem pd_24 : parseMethodDescriptor "(III)Ljava/lang/String;" = some ⟨[.int, .int, .int], some (.object "java/lang/String")⟩ := by decide +kernel
theorem pd_25 : parseMethodDescriptor "(Ljava/lang/String;Ljava/lang/String;)I" = some ⟨[(.object "java/lang/String"), (.object "java/lang/String")], some .int⟩ := by decide +kernel
theorem pn_0 : plainName "java/lang/StringUTF16" = true := by first | (simp [plainName, overriddenIn]; done) | decide +kernel
theorem pn_1 : plainName "java/lang/String" = true := by first | (simp [plainName, overriddenIn]; done) | decide +kernel
theorem pn_2 : plainName "jdk/internal/util/Preconditions" = true := by first | (simp [plainName, overriddenIn]; done) | decide +kernel
theorem pn_3 : plainName "java/lang/StringLatin1" = true := by first | (simp [plainName, overriddenIn]; done) | decide +kernel
theorem pn_4 : plainName "com/example/tuned_odds/tunedodds/retrieval/CodePointOrderComparePinLaw" = true := by first | (simp [plainName, overriddenIn]; done) | decide +kernel
theorem pn_5 : plainName "java/lang/Integer" = true := by first | (simp [plainName, overriddenIn]; done) | decide +kernel
theorem pn_6 : plainName "java/lang/Character" = true := by first | (simp [plainName, overriddenIn]; done) | decide +kernel
theorem pn_7 : plainName "com/example/tuned_odds/tunedodds/retrieval/CodePointOrder" = true := by first | (simp [plainName, overriddenIn]; done) | decide +kernel
theorem pn_8 : plainFor (⟨"java/lang/Math", "min", "(II)I"⟩ : MethodName) = true := by decide +kernel
theorem w_0 {a0 : Array Value} {Z : State} (hw : ∀ d ∈ tables_1, d.before a0 Z = true) : (Jvm.Cond.methodLink "com/example/tuned_odds/tunedodds/retrieval/CodePointOrderComparePinLaw" (7 : Nat) ({ cls := "com/example/tuned_odds/tunedodds/retrieval/CodePointOrderComparePinLaw", name := "cp", desc := "(I)I" } : Jvm.MethodName)).before a0 Z = true := hw _ (List.mem_of_getElem? (i := 0) rfl)
theorem w_1 {a0 : Array Value} {Z : State} (hw : ∀ d ∈ tables_1, d.before a0 Z = true) : (Jvm.Cond.static ({ cls := "com/example/tuned_odds/tunedodds/retrieval/CodePointOrderComparePinLaw", name := "cp", desc := "(I)I" } : Jvm.MethodName)).before a0 Z = true := hw _ (List.mem_of_getElem? (i := 1) rfl)
theorem w_2 {a0 : Array Value} {Z : State} (hw : ∀ d ∈ tables_1, d.before a0 Z = true) : (Jvm.Cond.initialized "com/example/tuned_odds/tunedodds/retrieval/CodePointOrderComparePinLaw").before a0 Z = true := hw _ (List.mem_of_getElem? (i := 2) rfl)
theorem w_3 {a0 : Array Value} {Z : State} (hw : ∀ d ∈ tables_1, d.before a0 Z = true) : (Jvm.Cond.code ({ cls := "com/example/tuned_odds/tunedodds/retrieval/CodePointOrderComparePinLaw", name := "cp", desc := "(I)I" } : Jvm.MethodName) method_3_code (2 : Nat) (Option.some Jvm.ClassFile.FieldType.int)).before a0 Z = true := hw _ (List.mem_of_getElem? (i := 3) rfl)
theorem w_4 {a0 : Array Value} {Z : State} (hw : ∀ d ∈ tables_1, d.before a0 Z = true) : (Jvm.Cond.constant "com/example/tuned_odds/tunedodds/retrieval/CodePointOrderComparePinLaw" (26 : Nat) (2147483647 : Int32)).before a0 Z = true := hw _ (List.mem_of_getElem? (i := 4) rfl)
theorem w_5 {a0 : Array Value} {Z : State} (hw : ∀ d ∈ tables_1, d.before a0 Z = true) : (Jvm.Cond.constant "com/example/tuned_odds/tunedodds/retrieval/CodePointOrderComparePinLaw" (27 : Nat) (1112064 : Int32)).before a0 Z = true := hw _ (List.mem_of_getElem? (i := 5) rfl)
theorem w_6 {a0 : Array Value} {Z : State} (hw : ∀ d ∈ tables_1, d.before a0 Z = true) : (Jvm.Cond.constant "com/example/tuned_odds/tunedodds/retrieval/CodePointOrderComparePinLaw" (28 : Nat) (55296 : Int32)).before a0 Z = true := hw _ (List.mem_of_getElem? (i := 6) rfl)
theorem w_7 {a0 : Array Value} {Z : State} (hw : ∀ d ∈ tables_1, d.before a0 Z = true) : (Jvm.Cond.methodLink "com/example/tuned_odds/tunedodds/retrieval/CodePointOrderComparePinLaw" (13 : Nat) ({ cls := "com/example/tuned_odds/tunedodds/retrieval/CodePointOrderComparePinLaw", name := "enc", desc := "(III)Ljava/lang/String;" } : Jvm.MethodName)).before a0 Z = true := hw _ (List.mem_of_getElem? (i := 7) rfl)
theorem w_8 {a0 : Array Value} {Z : State} (hw : ∀ d ∈ tables_1, d.before a0 Z = true) : (Jvm.Cond.static ({ cls := "com/example/tuned_odds/tunedodds/retrieval/CodePointOrderComparePinLaw", name := "enc", desc := "(III)Ljava/lang/String;" } : Jvm.MethodName)).before a0 Z = true := hw _ (List.mem_of_getElem? (i := 8) rfl)
theorem w_9 {a0 : Array Value} {Z : State} (hw : ∀ d ∈ tables_1, d.before a0 Z = true) : (Jvm.Cond.code ({ cls := "com/example/tuned_odds/tunedodds/retrieval/CodePointOrderComparePinLaw", name := "enc", desc := "(III)Ljava/lang/String;" } : Jvm.MethodName) method_8_code (5 : Nat) (Option.some (Jvm.ClassFile.FieldType.object "java/lang/String"))).before a0 Z = true := hw _ (List.mem_of_getElem? (i := 9) rfl)
theorem w_10 {a0 : Array Value} {Z : State} (hw : ∀ d ∈ tables_1, d.before a0 Z = true) : (Jvm.Cond.classLink "com/example/tuned_odds/tunedodds/retrieval/CodePointOrderComparePinLaw" (32 : Nat) "java/lang/String").before a0 Z = true := hw _ (List.mem_of_getElem? (i := 10) rfl)
theorem w_11 {a0 : Array Value} {Z : State} (hw : ∀ d ∈ tables_1, d.before a0 Z = true) : (Jvm.Cond.instantiable "java/lang/String" (4 : Nat)).before a0 Z = true := hw _ (List.mem_of_getElem? (i := 11) rfl)
theorem w_12 {a0 : Array Value} {Z : State} (hw : ∀ d ∈ tables_1, d.before a0 Z = true) : (Jvm.Cond.initialized "java/lang/String").before a0 Z = true := hw _ (List.mem_of_getElem? (i := 12) rfl)
theorem w_13 {a0 : Array Value} {Z : State} (hw : ∀ d ∈ tables_1, d.before a0 Z = true) : (Jvm.Cond.arrayClass Jvm.ClassFile.FieldType.char).before a0 Z = true := hw _ (List.mem_of_getElem? (i := 13) rfl)
theorem w_14 {a0 : Array Value} {Z : State} (hw : ∀ d ∈ tables_1, d.before a0 Z = true) : (Jvm.Cond.methodLink "com/example/tuned_odds/tunedodds/retrieval/CodePointOrderComparePinLaw" (44 : Nat) ({ cls := "java/lang/String", name := "<init>", desc := "([C)V" } : Jvm.MethodName)).before a0 Z = true := hw _ (List.mem_of_getElem? (i := 14) rfl)
theorem w_15 {a0 : Array Value} {Z : State} (hw : ∀ d ∈ tables_1, d.before a0 Z = true) : (Jvm.Cond.instanceMethod ({ cls := "java/lang/String", name := "<init>", desc := "([C)V" } : Jvm.MethodName)).before a0 Z = true := hw _ (List.mem_of_getElem? (i := 15) rfl)
theorem w_16 {a0 : Array Value} {Z : State} (hw : ∀ d ∈ tables_1, d.before a0 Z = true) : (Jvm.Cond.code ({ cls := "java/lang/String", name := "<init>", desc := "([C)V" } : Jvm.MethodName) jdk_42_method_3_code (2 : Nat) (Option.none : Option Jvm.ClassFile.FieldType)).before a0 Z = true := hw _ (List.mem_of_getElem? (i := 16) rfl)
theorem w_17 {a0 : Array Value} {Z : State} (hw : ∀ d ∈ tables_1, d.before a0 Z = true) : (Jvm.Cond.methodLink "java/lang/String" (27 : Nat) ({ cls := "java/lang/String", name := "<init>", desc := "([CIILjava/lang/Void;)V" } : Jvm.MethodName)).before a0 Z = true := hw _ (List.mem_of_getElem? (i := 17) rfl)
theorem w_18 {a0 : Array Value} {Z : State} (hw : ∀ d ∈ tables_1, d.before a0 Z = true) : (Jvm.Cond.instanceMethod ({ cls := "java/lang/String", name := "<init>", desc := "([CIILjava/lang/Void;)V" } : Jvm.MethodName)).before a0 Z = true := hw _ (List.mem_of_getElem? (i := 18) rfl)
theorem w_20 {a0 : Array Value} {Z : State} (hw : ∀ d ∈ tables_1, d.before a0 Z = true) : (Jvm.Cond.code ({ cls := "java/lang/String", name := "<init>", desc := "([CIILjava/lang/Void;)V" } : Jvm.MethodName) jdk_42_method_149_code (6 : Nat) (Option.none : Option Jvm.ClassFile.FieldType)).before a0 Z = true := hw _ (List.mem_of_getElem? (i := 20) rfl)
theorem w_21 {a0 : Array Value} {Z : State} (hw : ∀ d ∈ tables_1, d.before a0 Z = true) : (Jvm.Cond.methodLink "java/lang/String" (1 : Nat) ({ cls := "java/lang/Object", name := "<init>", desc := "()V" } : Jvm.MethodName)).before a0 Z = true := hw _ (List.mem_of_getElem? (i := 21) rfl)
theorem w_22 {a0 : Array Value} {Z : State} (hw : ∀ d ∈ tables_1, d.before a0 Z = true) : (Jvm.Cond.instanceMethod ({ cls := "java/lang/Object", name := "<init>", desc := "()V" } : Jvm.MethodName)).before a0 Z = true := hw _ (List.mem_of_getElem? (i := 22) rfl)
theorem w_23 {a0 : Array Value} {Z : State} (hw : ∀ d ∈ tables_1, d.before a0 Z = true) : (Jvm.Cond.code ({ cls := "java/lang/Object", name := "<init>", desc := "()V" } : Jvm.MethodName) object_method_1_code (1 : Nat) (Option.none : Option Jvm.ClassFile.FieldType)).before a0 Z = true := hw _ (List.mem_of_getElem? (i := 23) rfl)
theorem w_24 {a0 : Array Value} {Z : State} (hw : ∀ d ∈ tables_1, d.before a0 Z = true) : (Jvm.Cond.stringLink "java/lang/String" (7 : Nat) "").before a0 Z = true := hw _ (List.mem_of_getElem? (i := 24) rfl)
theorem w_25 {a0 : Array Value} {Z : State} (hw : ∀ d ∈ tables_1, d.before a0 Z = true) : (Jvm.Cond.arrayClass Jvm.ClassFile.FieldType.byte).before a0 Z = true := hw _ (List.mem_of_getElem? (i := 25) rfl)
theorem w_26 {a0 : Array Value} {Z : State} (hw : ∀ d ∈ tables_1, d.before a0 Z = true) : (Jvm.Cond.laysFinal "java/lang/String" "java/lang/String" "value" "[B").before a0 Z = true := hw _ (List.mem_of_getElem? (i := 26) rfl)
theorem w_27 {a0 : Array Value} {Z : State} (hw : ∀ d ∈ tables_1, d.before a0 Z = true) : (Jvm.Cond.laysFinal "java/lang/String" "java/lang/String" "coder" "B").before a0 Z = true := hw _ (List.mem_of_getElem? (i := 27) rfl)
theorem w_30 {a0 : Array Value} {Z : State} (hw : ∀ d ∈ tables_1, d.before a0 Z = true) : (Jvm.Cond.fieldLink "java/lang/String" (9 : Nat) "java/lang/String" "value" "[B").before a0 Z = true := hw _ (List.mem_of_getElem? (i := 30) rfl)
theorem w_31 {a0 : Array Value} {Z : State} (hw : ∀ d ∈ tables_1, d.before a0 Z = true) : (Jvm.Cond.fieldLink "java/lang/String" (15 : Nat) "java/lang/String" "coder" "B").before a0 Z = true := hw _ (List.mem_of_getElem? (i := 31) rfl)
theorem w_32 {a0 : Array Value} {Z : State} (hw : ∀ d ∈ tables_1, d.before a0 Z = true) : (Jvm.Cond.methodLink "com/example/tuned_odds/tunedodds/retrieval/CodePointOrderComparePinLaw" (17 : Nat) ({ cls := "com/example/tuned_odds/tunedodds/retrieval/CodePointOrderComparePinLaw", name := "sgn", desc := "(I)I" } : Jvm.MethodName)).before a0 Z = true := hw _ (List.mem_of_getElem? (i := 32) rfl)
theorem w_33 {a0 : Array Value} {Z : State} (hw : ∀ d ∈ tables_1, d.before a0 Z = true) : (Jvm.Cond.static ({ cls := "com/example/tuned_odds/tunedodds/retrieval/CodePointOrderComparePinLaw", name := "sgn", desc := "(I)I" } : Jvm.MethodName)).before a0 Z = true := hw _ (List.mem_of_getElem? (i := 33) rfl)
theorem w_34 {a0 : Array Value} {Z : State} (hw : ∀ d ∈ tables_1, d.before a0 Z = true) : (Jvm.Cond.code ({ cls := "com/example/tuned_odds/tunedodds/retrieval/CodePointOrderComparePinLaw", name := "sgn", desc := "(I)I" } : Jvm.MethodName) method_4_code (1 : Nat) (Option.some Jvm.ClassFile.FieldType.int)).before a0 Z = true := hw _ (List.mem_of_getElem? (i := 34) rfl)
theorem w_35 {a0 : Array Value} {Z : State} (hw : ∀ d ∈ tables_1, d.before a0 Z = true) : (Jvm.Cond.methodLink "com/example/tuned_odds/tunedodds/retrieval/CodePointOrderComparePinLaw" (20 : Nat) ({ cls := "com/example/tuned_odds/tunedodds/retrieval/CodePointOrder", name := "compare", desc := "(Ljava/lang/String;Ljava/lang/String;)I" } : Jvm.MethodName)).before a0 Z = true := hw _ (List.mem_of_getElem? (i := 35) rfl)
theorem w_36 {a0 : Array Value} {Z : State} (hw : ∀ d ∈ tables_1, d.before a0 Z = true) : (Jvm.Cond.static ({ cls := "com/example/tuned_odds/tunedodds/retrieval/CodePointOrder", name := "compare", desc := "(Ljava/lang/String;Ljava/lang/String;)I" } : Jvm.MethodName)).before a0 Z = true := hw _ (List.mem_of_getElem? (i := 36) rfl)
theorem w_37 {a0 : Array Value} {Z : State} (hw : ∀ d ∈ tables_1, d.before a0 Z = true) : (Jvm.Cond.initialized "com/example/tuned_odds/tunedodds/retrieval/CodePointOrder").before a0 Z = true := hw _ (List.mem_of_getElem? (i := 37) rfl)
theorem w_38 {a0 : Array Value} {Z : State} (hw : ∀ d ∈ tables_1, d.before a0 Z = true) : (Jvm.Cond.code ({ cls := "com/example/tuned_odds/tunedodds/retrieval/CodePointOrder", name := "compare", desc := "(Ljava/lang/String;Ljava/lang/String;)I" } : Jvm.MethodName) prog_42_method_2_code (6 : Nat) (Option.some Jvm.ClassFile.FieldType.int)).before a0 Z = true := hw _ (List.mem_of_getElem? (i := 38) rfl)
theorem w_39 {a0 : Array Value} {Z : State} (hw : ∀ d ∈ tables_1, d.before a0 Z = true) : (Jvm.Cond.methodLink "com/example/tuned_odds/tunedodds/retrieval/CodePointOrder" (7 : Nat) ({ cls := "java/lang/String", name := "length", desc := "()I" } : Jvm.MethodName)).before a0 Z = true := hw _ (List.mem_of_getElem? (i := 39) rfl)
theorem w_40 {a0 : Array Value} {Z : State} (hw : ∀ d ∈ tables_1, d.before a0 Z = true) : (Jvm.Cond.declares ({ cls := "java/lang/String", name := "length", desc := "()I" } : Jvm.MethodName)).before a0 Z = true := hw _ (List.mem_of_getElem? (i := 40) rfl)
theorem w_41 {a0 : Array Value} {Z : State} (hw : ∀ d ∈ tables_1, d.before a0 Z = true) : (Jvm.Cond.instanceMethod ({ cls := "java/lang/String", name := "length", desc := "()I" } : Jvm.MethodName)).before a0 Z = true := hw _ (List.mem_of_getElem? (i := 41) rfl)
theorem w_42 {a0 : Array Value} {Z : State} (hw : ∀ d ∈ tables_1, d.before a0 Z = true) : (Jvm.Cond.selects "java/lang/String" ({ cls := "java/lang/String", name := "length", desc := "()I" } : Jvm.MethodName) ({ cls := "java/lang/String", name := "length", desc := "()I" } : Jvm.MethodName)).before a0 Z = true := hw _ (List.mem_of_getElem? (i := 42) rfl)
theorem w_43 {a0 : Array Value} {Z : State} (hw : ∀ d ∈ tables_1, d.before a0 Z = true) : (Jvm.Cond.code ({ cls := "java/lang/String", name := "length", desc := "()I" } : Jvm.MethodName) jdk_42_method_54_code (1 : Nat) (Option.some Jvm.ClassFile.FieldType.int)).before a0 Z = true := hw _ (List.mem_of_getElem? (i := 43) rfl)
theorem w_44 {a0 : Array Value} {Z : State} (hw : ∀ d ∈ tables_1, d.before a0 Z = true) : (Jvm.Cond.methodLink "java/lang/String" (335 : Nat) ({ cls := "java/lang/String", name := "coder", desc := "()B" } : Jvm.MethodName)).before a0 Z = true := hw _ (List.mem_of_getElem? (i := 44) rfl)
theorem w_45 {a0 : Array Value} {Z : State} (hw : ∀ d ∈ tables_1, d.before a0 Z = true) : (Jvm.Cond.declares ({ cls := "java/lang/String", name := "coder", desc := "()B" } : Jvm.MethodName)).before a0 Z = true := hw _ (List.mem_of_getElem? (i := 45) rfl)
theorem w_46 {a0 : Array Value} {Z : State} (hw : ∀ d ∈ tables_1, d.before a0 Z = true) : (Jvm.Cond.instanceMethod ({ cls := "java/lang/String", name := "coder", desc := "()B" } : Jvm.MethodName)).before a0 Z = true := hw _ (List.mem_of_getElem? (i := 46) rfl)
theorem w_47 {a0 : Array Value} {Z : State} (hw : ∀ d ∈ tables_1, d.before a0 Z = true) : (Jvm.Cond.selects "java/lang/String" ({ cls := "java/lang/String", name := "coder", desc := "()B" } : Jvm.MethodName) ({ cls := "java/lang/String", name := "coder", desc := "()B" } : Jvm.MethodName)).before a0 Z = true := hw _ (List.mem_of_getElem? (i := 47) rfl)
theorem w_48 {a0 : Array Value} {Z : State} (hw : ∀ d ∈ tables_1, d.before a0 Z = true) : (Jvm.Cond.code ({ cls := "java/lang/String", name := "coder", desc := "()B" } : Jvm.MethodName) jdk_42_method_152_code (1 : Nat) (Option.some Jvm.ClassFile.FieldType.byte)).before a0 Z = true := hw _ (List.mem_of_getElem? (i := 48) rfl)
theorem w_49 {a0 : Array Value} {Z : State} (hw : ∀ d ∈ tables_1, d.before a0 Z = true) : (Jvm.Cond.fieldLink "java/lang/String" (38 : Nat) "java/lang/String" "COMPACT_STRINGS" "Z").before a0 Z = true := hw _ (List.mem_of_getElem? (i := 49) rfl)
theorem w_50 {a0 : Array Value} {Z : State} (hw : ∀ d ∈ tables_1, d.before a0 Z = true) : (Jvm.Cond.methodLink "com/example/tuned_odds/tunedodds/retrieval/CodePointOrder" (13 : Nat) ({ cls := "java/lang/Math", name := "min", desc := "(II)I" } : Jvm.MethodName)).before a0 Z = true := hw _ (List.mem_of_getElem? (i := 50) rfl)
theorem w_51 {a0 : Array Value} {Z : State} (hw : ∀ d ∈ tables_1, d.before a0 Z = true) : (Jvm.Cond.static ({ cls := "java/lang/Math", name := "min", desc := "(II)I" } : Jvm.MethodName)).before a0 Z = true := hw _ (List.mem_of_getElem? (i := 51) rfl)
theorem w_52 {a0 : Array Value} {Z : State} (hw : ∀ d ∈ tables_1, d.before a0 Z = true) : (Jvm.Cond.initialized "java/lang/Math").before a0 Z = true := hw _ (List.mem_of_getElem? (i := 52) rfl)
theorem w_53 {a0 : Array Value} {Z : State} (hw : ∀ d ∈ tables_1, d.before a0 Z = true) : (Jvm.Cond.code ({ cls := "java/lang/Math", name := "min", desc := "(II)I" } : Jvm.MethodName) jdk_29_method_69_code (2 : Nat) (Option.some Jvm.ClassFile.FieldType.int)).before a0 Z = true := hw _ (List.mem_of_getElem? (i := 53) rfl)
theorem w_54 {a0 : Array Value} {Z : State} (hw : ∀ d ∈ tables_1, d.before a0 Z = true) : (Jvm.Cond.methodLink "com/example/tuned_odds/tunedodds/retrieval/CodePointOrder" (29 : Nat) ({ cls := "java/lang/Integer", name := "compare", desc := "(II)I" } : Jvm.MethodName)).before a0 Z = true := hw _ (List.mem_of_getElem? (i := 54) rfl)
theorem w_55 {a0 : Array Value} {Z : State} (hw : ∀ d ∈ tables_1, d.before a0 Z = true) : (Jvm.Cond.static ({ cls := "java/lang/Integer", name := "compare", desc := "(II)I" } : Jvm.MethodName)).before a0 Z = true := hw _ (List.mem_of_getElem? (i := 55) rfl)
theorem w_56 {a0 : Array Value} {Z : State} (hw : ∀ d ∈ tables_1, d.before a0 Z = true) : (Jvm.Cond.initialized "java/lang/Integer").before a0 Z = true := hw _ (List.mem_of_getElem? (i := 56) rfl)
theorem w_57 {a0 : Array Value} {Z : State} (hw : ∀ d ∈ tables_1, d.before a0 Z = true) : (Jvm.Cond.code ({ cls := "java/lang/Integer", name := "compare", desc := "(II)I" } : Jvm.MethodName) jdk_33_method_40_code (2 : Nat) (Option.some Jvm.ClassFile.FieldType.int)).before a0 Z = true := hw _ (List.mem_of_getElem? (i := 57) rfl)
theorem w_58 {a0 : Array Value} {Z : State} (hw : ∀ d ∈ tables_1, d.before a0 Z = true) : (Jvm.Cond.methodLink "com/example/tuned_odds/tunedodds/retrieval/CodePointOrderComparePinLaw" (47 : Nat) ({ cls := "com/example/tuned_odds/tunedodds/retrieval/CodePointOrderComparePinLaw", name := "one", desc := "(I)Ljava/lang/String;" } : Jvm.MethodName)).before a0 Z = true := hw _ (List.mem_of_getElem? (i := 58) rfl)
theorem w_59 {a0 : Array Value} {Z : State} (hw : ∀ d ∈ tables_1, d.before a0 Z = true) : (Jvm.Cond.static ({ cls := "com/example/tuned_odds/tunedodds/retrieval/CodePointOrderComparePinLaw", name := "one", desc := "(I)Ljava/lang/String;" } : Jvm.MethodName)).before a0 Z = true := hw _ (List.mem_of_getElem? (i := 59) rfl)
theorem w_60 {a0 : Array Value} {Z : State} (hw : ∀ d ∈ tables_1, d.before a0 Z = true) : (Jvm.Cond.code ({ cls := "com/example/tuned_odds/tunedodds/retrieval/CodePointOrderComparePinLaw", name := "one", desc := "(I)Ljava/lang/String;" } : Jvm.MethodName) method_7_code (1 : Nat) (Option.some (Jvm.ClassFile.FieldType.object "java/lang/String"))).before a0 Z = true := hw _ (List.mem_of_getElem? (i := 60) rfl)
theorem w_61 {a0 : Array Value} {Z : State} (hw : ∀ d ∈ tables_1, d.before a0 Z = true) : (Jvm.Cond.constant "com/example/tuned_odds/tunedodds/retrieval/CodePointOrderComparePinLaw" (29 : Nat) (65536 : Int32)).before a0 Z = true := hw _ (List.mem_of_getElem? (i := 61) rfl)
theorem w_62 {a0 : Array Value} {Z : State} (hw : ∀ d ∈ tables_1, d.before a0 Z = true) : (Jvm.Cond.methodLink "com/example/tuned_odds/tunedodds/retrieval/CodePointOrderComparePinLaw" (31 : Nat) ({ cls := "java/lang/String", name := "valueOf", desc := "(C)Ljava/lang/String;" } : Jvm.MethodName)).before a0 Z = true := hw _ (List.mem_of_getElem? (i := 62) rfl)
theorem w_63 {a0 : Array Value} {Z : State} (hw : ∀ d ∈ tables_1, d.before a0 Z = true) : (Jvm.Cond.static ({ cls := "java/lang/String", name := "valueOf", desc := "(C)Ljava/lang/String;" } : Jvm.MethodName)).before a0 Z = true := hw _ (List.mem_of_getElem? (i := 63) rfl)
theorem w_64 {a0 : Array Value} {Z : State} (hw : ∀ d ∈ tables_1, d.before a0 Z = true) : (Jvm.Cond.code ({ cls := "java/lang/String", name := "valueOf", desc := "(C)Ljava/lang/String;" } : Jvm.MethodName) jdk_42_method_139_code (1 : Nat) (Option.some (Jvm.ClassFile.FieldType.object "java/lang/String"))).before a0 Z = true := hw _ (List.mem_of_getElem? (i := 64) rfl)
theorem w_65 {a0 : Array Value} {Z : State} (hw : ∀ d ∈ tables_1, d.before a0 Z = true) : (Jvm.Cond.methodLink "java/lang/String" (1015 : Nat) ({ cls := "java/lang/StringLatin1", name := "canEncode", desc := "(C)Z" } : Jvm.MethodName)).before a0 Z = true := hw _ (List.mem_of_getElem? (i := 65) rfl)
theorem w_66 {a0 : Array Value} {Z : State} (hw : ∀ d ∈ tables_1, d.before a0 Z = true) : (Jvm.Cond.static ({ cls := "java/lang/StringLatin1", name := "canEncode", desc := "(C)Z" } : Jvm.MethodName)).before a0 Z = true := hw _ (List.mem_of_getElem? (i := 66) rfl)
theorem w_67 {a0 : Array Value} {Z : State} (hw : ∀ d ∈ tables_1, d.before a0 Z = true) : (Jvm.Cond.initialized "java/lang/StringLatin1").before a0 Z = true := hw _ (List.mem_of_getElem? (i := 67) rfl)
theorem w_68 {a0 : Array Value} {Z : State} (hw : ∀ d ∈ tables_1, d.before a0 Z = true) : (Jvm.Cond.code ({ cls := "java/lang/StringLatin1", name := "canEncode", desc := "(C)Z" } : Jvm.MethodName) jdk_43_method_3_code (1 : Nat) (Option.some Jvm.ClassFile.FieldType.boolean)).before a0 Z = true := hw _ (List.mem_of_getElem? (i := 68) rfl)
theorem w_69 {a0 : Array Value} {Z : State} (hw : ∀ d ∈ tables_1, d.before a0 Z = true) : (Jvm.Cond.classLink "java/lang/String" (10 : Nat) "java/lang/String").before a0 Z = true := hw _ (List.mem_of_getElem? (i := 69) rfl)
theorem w_70 {a0 : Array Value} {Z : State} (hw : ∀ d ∈ tables_1, d.before a0 Z = true) : (Jvm.Cond.methodLink "java/lang/String" (1018 : Nat) ({ cls := "java/lang/StringLatin1", name := "toBytes", desc := "(C)[B" } : Jvm.MethodName)).before a0 Z = true := hw _ (List.mem_of_getElem? (i := 70) rfl)
theorem w_71 {a0 : Array Value} {Z : State} (hw : ∀ d ∈ tables_1, d.before a0 Z = true) : (Jvm.Cond.static ({ cls := "java/lang/StringLatin1", name := "toBytes", desc := "(C)[B" } : Jvm.MethodName)).before a0 Z = true := hw _ (List.mem_of_getElem? (i := 71) rfl)
theorem w_72 {a0 : Array Value} {Z : State} (hw : ∀ d ∈ tables_1, d.before a0 Z = true) : (Jvm.Cond.code ({ cls := "java/lang/StringLatin1", name := "toBytes", desc := "(C)[B" } : Jvm.MethodName) jdk_43_method_46_code (1 : Nat) (Option.some (Jvm.ClassFile.FieldType.array Jvm.ClassFile.FieldType.byte))).before a0 Z = true := hw _ (List.mem_of_getElem? (i := 72) rfl)
theorem w_73 {a0 : Array Value} {Z : State} (hw : ∀ d ∈ tables_1, d.before a0 Z = true) : (Jvm.Cond.methodLink "java/lang/String" (209 : Nat) ({ cls := "java/lang/String", name := "<init>", desc := "([BB)V" } : Jvm.MethodName)).before a0 Z = true := hw _ (List.mem_of_getElem? (i := 73) rfl)
theorem w_74 {a0 : Array Value} {Z : State} (hw : ∀ d ∈ tables_1, d.before a0 Z = true) : (Jvm.Cond.instanceMethod ({ cls := "java/lang/String", name := "<init>", desc := "([BB)V" } : Jvm.MethodName)).before a0 Z = true := hw _ (List.mem_of_getElem? (i := 74) rfl)
theorem w_75 {a0 : Array Value} {Z : State} (hw : ∀ d ∈ tables_1, d.before a0 Z = true) : (Jvm.Cond.code ({ cls := "java/lang/String", name := "<init>", desc := "([BB)V" } : Jvm.MethodName) jdk_42_method_151_code (3 : Nat) (Option.none : Option Jvm.ClassFile.FieldType)).before a0 Z = true := hw _ (List.mem_of_getElem? (i := 75) rfl)
theorem w_76 {a0 : Array Value} {Z : State} (hw : ∀ d ∈ tables_1, d.before a0 Z = true) : (Jvm.Cond.methodLink "java/lang/String" (177 : Nat) ({ cls := "java/lang/StringUTF16", name := "compress", desc := "([CII)[B" } : Jvm.MethodName)).before a0 Z = true := hw _ (List.mem_of_getElem? (i := 76) rfl)
theorem w_77 {a0 : Array Value} {Z : State} (hw : ∀ d ∈ tables_1, d.before a0 Z = true) : (Jvm.Cond.static ({ cls := "java/lang/StringUTF16", name := "compress", desc := "([CII)[B" } : Jvm.MethodName)).before a0 Z = true := hw _ (List.mem_of_getElem? (i := 77) rfl)
theorem w_78 {a0 : Array Value} {Z : State} (hw : ∀ d ∈ tables_1, d.before a0 Z = true) : (Jvm.Cond.initialized "java/lang/StringUTF16").before a0 Z = true := hw _ (List.mem_of_getElem? (i := 78) rfl)
theorem w_79 {a0 : Array Value} {Z : State} (hw : ∀ d ∈ tables_1, d.before a0 Z = true) : (Jvm.Cond.code ({ cls := "java/lang/StringUTF16", name := "compress", desc := "([CII)[B" } : Jvm.MethodName) jdk_52_method_16_code (6 : Nat) (Option.some (Jvm.ClassFile.FieldType.array Jvm.ClassFile.FieldType.byte))).before a0 Z = true := hw _ (List.mem_of_getElem? (i := 79) rfl)
theorem w_80 {a0 : Array Value} {Z : State} (hw : ∀ d ∈ tables_1, d.before a0 Z = true) : (Jvm.Cond.methodLink "java/lang/StringUTF16" (115 : Nat) ({ cls := "java/lang/StringUTF16", name := "compress", desc := "([CI[BII)I" } : Jvm.MethodName)).before a0 Z = true := hw _ (List.mem_of_getElem? (i := 80) rfl)
theorem w_81 {a0 : Array Value} {Z : State} (hw : ∀ d ∈ tables_1, d.before a0 Z = true) : (Jvm.Cond.static ({ cls := "java/lang/StringUTF16", name := "compress", desc := "([CI[BII)I" } : Jvm.MethodName)).before a0 Z = true := hw _ (List.mem_of_getElem? (i := 81) rfl)
theorem w_82 {a0 : Array Value} {Z : State} (hw : ∀ d ∈ tables_1, d.before a0 Z = true) : (Jvm.Cond.code ({ cls := "java/lang/StringUTF16", name := "compress", desc := "([CI[BII)I" } : Jvm.MethodName) jdk_52_method_21_code (7 : Nat) (Option.some Jvm.ClassFile.FieldType.int)).before a0 Z = true := hw _ (List.mem_of_getElem? (i := 82) rfl)
theorem w_83 {a0 : Array Value} {Z : State} (hw : ∀ d ∈ tables_1, d.before a0 Z = true) : (Jvm.Cond.methodLink "java/lang/String" (47 : Nat) ({ cls := "java/lang/StringUTF16", name := "coderFromArrayLen", desc := "([BI)B" } : Jvm.MethodName)).before a0 Z = true := hw _ (List.mem_of_getElem? (i := 83) rfl)
theorem w_84 {a0 : Array Value} {Z : State} (hw : ∀ d ∈ tables_1, d.before a0 Z = true) : (Jvm.Cond.static ({ cls := "java/lang/StringUTF16", name := "coderFromArrayLen", desc := "([BI)B" } : Jvm.MethodName)).before a0 Z = true := hw _ (List.mem_of_getElem? (i := 84) rfl)
theorem w_85 {a0 : Array Value} {Z : State} (hw : ∀ d ∈ tables_1, d.before a0 Z = true) : (Jvm.Cond.code ({ cls := "java/lang/StringUTF16", name := "coderFromArrayLen", desc := "([BI)B" } : Jvm.MethodName) jdk_52_method_15_code (2 : Nat) (Option.some Jvm.ClassFile.FieldType.byte)).before a0 Z = true := hw _ (List.mem_of_getElem? (i := 85) rfl)
theorem w_86 {a0 : Array Value} {Z : State} (hw : ∀ d ∈ tables_1, d.before a0 Z = true) : (Jvm.Cond.methodLink "com/example/tuned_odds/tunedodds/retrieval/CodePointOrderComparePinLaw" (37 : Nat) ({ cls := "com/example/tuned_odds/tunedodds/retrieval/CodePointOrderComparePinLaw", name := "hi", desc := "(I)C" } : Jvm.MethodName)).before a0 Z = true := hw _ (List.mem_of_getElem? (i := 86) rfl)
theorem w_87 {a0 : Array Value} {Z : State} (hw : ∀ d ∈ tables_1, d.before a0 Z = true) : (Jvm.Cond.static ({ cls := "com/example/tuned_odds/tunedodds/retrieval/CodePointOrderComparePinLaw", name := "hi", desc := "(I)C" } : Jvm.MethodName)).before a0 Z = true := hw _ (List.mem_of_getElem? (i := 87) rfl)
theorem w_88 {a0 : Array Value} {Z : State} (hw : ∀ d ∈ tables_1, d.before a0 Z = true) : (Jvm.Cond.code ({ cls := "com/example/tuned_odds/tunedodds/retrieval/CodePointOrderComparePinLaw", name := "hi", desc := "(I)C" } : Jvm.MethodName) method_5_code (1 : Nat) (Option.some Jvm.ClassFile.FieldType.char)).before a0 Z = true := hw _ (List.mem_of_getElem? (i := 88) rfl)
theorem w_89 {a0 : Array Value} {Z : State} (hw : ∀ d ∈ tables_1, d.before a0 Z = true) : (Jvm.Cond.methodLink "com/example/tuned_odds/tunedodds/retrieval/CodePointOrderComparePinLaw" (41 : Nat) ({ cls := "com/example/tuned_odds/tunedodds/retrieval/CodePointOrderComparePinLaw", name := "lo", desc := "(I)C" } : Jvm.MethodName)).before a0 Z = true := hw _ (List.mem_of_getElem? (i := 89) rfl)
theorem w_90 {a0 : Array Value} {Z : State} (hw : ∀ d ∈ tables_1, d.before a0 Z = true) : (Jvm.Cond.static ({ cls := "com/example/tuned_odds/tunedodds/retrieval/CodePointOrderComparePinLaw", name := "lo", desc := "(I)C" } : Jvm.MethodName)).before a0 Z = true := hw _ (List.mem_of_getElem? (i := 90) rfl)
theorem w_91 {a0 : Array Value} {Z : State} (hw : ∀ d ∈ tables_1, d.before a0 Z = true) : (Jvm.Cond.code ({ cls := "com/example/tuned_odds/tunedodds/retrieval/CodePointOrderComparePinLaw", name := "lo", desc := "(I)C" } : Jvm.MethodName) method_6_code (1 : Nat) (Option.some Jvm.ClassFile.FieldType.char)).before a0 Z = true := hw _ (List.mem_of_getElem? (i := 91) rfl)
theorem w_92 {a0 : Array Value} {Z : State} (hw : ∀ d ∈ tables_1, d.before a0 Z = true) : (Jvm.Cond.constant "com/example/tuned_odds/tunedodds/retrieval/CodePointOrderComparePinLaw" (30 : Nat) (56320 : Int32)).before a0 Z = true := hw _ (List.mem_of_getElem? (i := 92) rfl)
theorem w_93 {a0 : Array Value} {Z : State} (hw : ∀ d ∈ tables_1, d.before a0 Z = true) : (Jvm.Cond.methodLink "java/lang/StringUTF16" (119 : Nat) ({ cls := "java/lang/StringUTF16", name := "toBytes", desc := "([CII)[B" } : Jvm.MethodName)).before a0 Z = true := hw _ (List.mem_of_getElem? (i := 93) rfl)
theorem w_94 {a0 : Array Value} {Z : State} (hw : ∀ d ∈ tables_1, d.before a0 Z = true) : (Jvm.Cond.static ({ cls := "java/lang/StringUTF16", name := "toBytes", desc := "([CII)[B" } : Jvm.MethodName)).before a0 Z = true := hw _ (List.mem_of_getElem? (i := 94) rfl)
theorem w_95 {a0 : Array Value} {Z : State} (hw : ∀ d ∈ tables_1, d.before a0 Z = true) : (Jvm.Cond.code ({ cls := "java/lang/StringUTF16", name := "toBytes", desc := "([CII)[B" } : Jvm.MethodName) jdk_52_method_14_code (5 : Nat) (Option.some (Jvm.ClassFile.FieldType.array Jvm.ClassFile.FieldType.byte))).before a0 Z = true := hw _ (List.mem_of_getElem? (i := 95) rfl)
theorem w_96 {a0 : Array Value} {Z : State} (hw : ∀ d ∈ tables_1, d.before a0 Z = true) : (Jvm.Cond.methodLink "java/lang/StringUTF16" (107 : Nat) ({ cls := "java/lang/StringUTF16", name := "newBytesFor", desc := "(I)[B" } : Jvm.MethodName)).before a0 Z = true := hw _ (List.mem_of_getElem? (i := 96) rfl)
theorem w_97 {a0 : Array Value} {Z : State} (hw : ∀ d ∈ tables_1, d.before a0 Z = true) : (Jvm.Cond.static ({ cls := "java/lang/StringUTF16", name := "newBytesFor", desc := "(I)[B" } : Jvm.MethodName)).before a0 Z = true := hw _ (List.mem_of_getElem? (i := 97) rfl)
theorem w_98 {a0 : Array Value} {Z : State} (hw : ∀ d ∈ tables_1, d.before a0 Z = true) : (Jvm.Cond.code ({ cls := "java/lang/StringUTF16", name := "newBytesFor", desc := "(I)[B" } : Jvm.MethodName) jdk_52_method_2_code (1 : Nat) (Option.some (Jvm.ClassFile.FieldType.array Jvm.ClassFile.FieldType.byte))).before a0 Z = true := hw _ (List.mem_of_getElem? (i := 98) rfl)
theorem w_99 {a0 : Array Value} {Z : State} (hw : ∀ d ∈ tables_1, d.before a0 Z = true) : (Jvm.Cond.methodLink "java/lang/StringUTF16" (11 : Nat) ({ cls := "java/lang/StringUTF16", name := "newBytesLength", desc := "(I)I" } : Jvm.MethodName)).before a0 Z = true := hw _ (List.mem_of_getElem? (i := 99) rfl)
theorem w_100 {a0 : Array Value} {Z : State} (hw : ∀ d ∈ tables_1, d.before a0 Z = true) : (Jvm.Cond.static ({ cls := "java/lang/StringUTF16", name := "newBytesLength", desc := "(I)I" } : Jvm.MethodName)).before a0 Z = true := hw _ (List.mem_of_getElem? (i := 100) rfl)
theorem w_101 {a0 : Array Value} {Z : State} (hw : ∀ d ∈ tables_1, d.before a0 Z = true) : (Jvm.Cond.code ({ cls := "java/lang/StringUTF16", name := "newBytesLength", desc := "(I)I" } : Jvm.MethodName) jdk_52_method_3_code (1 : Nat) (Option.some Jvm.ClassFile.FieldType.int)).before a0 Z = true := hw _ (List.mem_of_getElem? (i := 101) rfl)
theorem w_102 {a0 : Array Value} {Z : State} (hw : ∀ d ∈ tables_1, d.before a0 Z = true) : (Jvm.Cond.constant "java/lang/StringUTF16" (20 : Nat) (1073741823 : Int32)).before a0 Z = true := hw _ (List.mem_of_getElem? (i := 102) rfl)
theorem w_103 {a0 : Array Value} {Z : State} (hw : ∀ d ∈ tables_1, d.before a0 Z = true) : (Jvm.Cond.methodLink "java/lang/StringUTF16" (111 : Nat) ({ cls := "java/lang/StringUTF16", name := "putChar", desc := "([BII)V" } : Jvm.MethodName)).before a0 Z = true := hw _ (List.mem_of_getElem? (i := 103) rfl)
theorem w_104 {a0 : Array Value} {Z : State} (hw : ∀ d ∈ tables_1, d.before a0 Z = true) : (Jvm.Cond.static ({ cls := "java/lang/StringUTF16", name := "putChar", desc := "([BII)V" } : Jvm.MethodName)).before a0 Z = true := hw _ (List.mem_of_getElem? (i := 104) rfl)
theorem w_105 {a0 : Array Value} {Z : State} (hw : ∀ d ∈ tables_1, d.before a0 Z = true) : (Jvm.Cond.code ({ cls := "java/lang/StringUTF16", name := "putChar", desc := "([BII)V" } : Jvm.MethodName) jdk_52_method_4_code (3 : Nat) (Option.none : Option Jvm.ClassFile.FieldType)).before a0 Z = true := hw _ (List.mem_of_getElem? (i := 105) rfl)
theorem w_106 {a0 : Array Value} {Z : State} (hw : ∀ d ∈ tables_1, d.before a0 Z = true) : (Jvm.Cond.fieldLink "java/lang/StringUTF16" (44 : Nat) "java/lang/StringUTF16" "$assertionsDisabled" "Z").before a0 Z = true := hw _ (List.mem_of_getElem? (i := 106) rfl)
theorem w_107 {a0 : Array Value} {Z : State} (hw : ∀ d ∈ tables_1, d.before a0 Z = true) : (Jvm.Cond.fieldLink "java/lang/StringUTF16" (59 : Nat) "java/lang/StringUTF16" "HI_BYTE_SHIFT" "I").before a0 Z = true := hw _ (List.mem_of_getElem? (i := 107) rfl)
theorem w_108 {a0 : Array Value} {Z : State} (hw : ∀ d ∈ tables_1, d.before a0 Z = true) : (Jvm.Cond.fieldLink "java/lang/StringUTF16" (63 : Nat) "java/lang/StringUTF16" "LO_BYTE_SHIFT" "I").before a0 Z = true := hw _ (List.mem_of_getElem? (i := 108) rfl)
theorem w_109 {a0 : Array Value} {Z : State} (hw : ∀ d ∈ tables_1, d.before a0 Z = true) : (Jvm.Cond.methodLink "java/lang/StringUTF16" (71 : Nat) ({ cls := "java/lang/StringUTF16", name := "getChar", desc := "([BI)C" } : Jvm.MethodName)).before a0 Z = true := hw _ (List.mem_of_getElem? (i := 109) rfl)
theorem w_110 {a0 : Array Value} {Z : State} (hw : ∀ d ∈ tables_1, d.before a0 Z = true) : (Jvm.Cond.static ({ cls := "java/lang/StringUTF16", name := "getChar", desc := "([BI)C" } : Jvm.MethodName)).before a0 Z = true := hw _ (List.mem_of_getElem? (i := 110) rfl)
theorem w_111 {a0 : Array Value} {Z : State} (hw : ∀ d ∈ tables_1, d.before a0 Z = true) : (Jvm.Cond.code ({ cls := "java/lang/StringUTF16", name := "getChar", desc := "([BI)C" } : Jvm.MethodName) jdk_52_method_5_code (2 : Nat) (Option.some Jvm.ClassFile.FieldType.char)).before a0 Z = true := hw _ (List.mem_of_getElem? (i := 111) rfl)
theorem w_112 {a0 : Array Value} {Z : State} (hw : ∀ d ∈ tables_1, d.before a0 Z = true) : (Jvm.Cond.methodLink "com/example/tuned_odds/tunedodds/retrieval/CodePointOrder" (19 : Nat) ({ cls := "java/lang/String", name := "charAt", desc := "(I)C" } : Jvm.MethodName)).before a0 Z = true := hw _ (List.mem_of_getElem? (i := 112) rfl)
theorem w_113 {a0 : Array Value} {Z : State} (hw : ∀ d ∈ tables_1, d.before a0 Z = true) : (Jvm.Cond.declares ({ cls := "java/lang/String", name := "charAt", desc := "(I)C" } : Jvm.MethodName)).before a0 Z = true := hw _ (List.mem_of_getElem? (i := 113) rfl)
theorem w_114 {a0 : Array Value} {Z : State} (hw : ∀ d ∈ tables_1, d.before a0 Z = true) : (Jvm.Cond.instanceMethod ({ cls := "java/lang/String", name := "charAt", desc := "(I)C" } : Jvm.MethodName)).before a0 Z = true := hw _ (List.mem_of_getElem? (i := 114) rfl)
theorem w_115 {a0 : Array Value} {Z : State} (hw : ∀ d ∈ tables_1, d.before a0 Z = true) : (Jvm.Cond.selects "java/lang/String" ({ cls := "java/lang/String", name := "charAt", desc := "(I)C" } : Jvm.MethodName) ({ cls := "java/lang/String", name := "charAt", desc := "(I)C" } : Jvm.MethodName)).before a0 Z = true := hw _ (List.mem_of_getElem? (i := 115) rfl)
theorem w_116 {a0 : Array Value} {Z : State} (hw : ∀ d ∈ tables_1, d.before a0 Z = true) : (Jvm.Cond.code ({ cls := "java/lang/String", name := "charAt", desc := "(I)C" } : Jvm.MethodName) jdk_42_method_56_code (2 : Nat) (Option.some Jvm.ClassFile.FieldType.char)).before a0 Z = true := hw _ (List.mem_of_getElem? (i := 116) rfl)
theorem w_117 {a0 : Array Value} {Z : State} (hw : ∀ d ∈ tables_1, d.before a0 Z = true) : (Jvm.Cond.methodLink "java/lang/String" (492 : Nat) ({ cls := "java/lang/String", name := "isLatin1", desc := "()Z" } : Jvm.MethodName)).before a0 Z = true := hw _ (List.mem_of_getElem? (i := 117) rfl)
theorem w_118 {a0 : Array Value} {Z : State} (hw : ∀ d ∈ tables_1, d.before a0 Z = true) : (Jvm.Cond.declares ({ cls := "java/lang/String", name := "isLatin1", desc := "()Z" } : Jvm.MethodName)).before a0 Z = true := hw _ (List.mem_of_getElem? (i := 118) rfl)
theorem w_119 {a0 : Array Value} {Z : State} (hw : ∀ d ∈ tables_1, d.before a0 Z = true) : (Jvm.Cond.instanceMethod ({ cls := "java/lang/String", name := "isLatin1", desc := "()Z" } : Jvm.MethodName)).before a0 Z = true := hw _ (List.mem_of_getElem? (i := 119) rfl)
theorem w_120 {a0 : Array Value} {Z : State} (hw : ∀ d ∈ tables_1, d.before a0 Z = true) : (Jvm.Cond.selects "java/lang/String" ({ cls := "java/lang/String", name := "isLatin1", desc := "()Z" } : Jvm.MethodName) ({ cls := "java/lang/String", name := "isLatin1", desc := "()Z" } : Jvm.MethodName)).before a0 Z = true := hw _ (List.mem_of_getElem? (i := 120) rfl)
theorem w_121 {a0 : Array Value} {Z : State} (hw : ∀ d ∈ tables_1, d.before a0 Z = true) : (Jvm.Cond.code ({ cls := "java/lang/String", name := "isLatin1", desc := "()Z" } : Jvm.MethodName) jdk_42_method_154_code (1 : Nat) (Option.some Jvm.ClassFile.FieldType.boolean)).before a0 Z = true := hw _ (List.mem_of_getElem? (i := 121) rfl)
theorem w_122 {a0 : Array Value} {Z : State} (hw : ∀ d ∈ tables_1, d.before a0 Z = true) : (Jvm.Cond.methodLink "java/lang/String" (498 : Nat) ({ cls := "java/lang/StringUTF16", name := "charAt", desc := "([BI)C" } : Jvm.MethodName)).before a0 Z = true := hw _ (List.mem_of_getElem? (i := 122) rfl)
theorem w_123 {a0 : Array Value} {Z : State} (hw : ∀ d ∈ tables_1, d.before a0 Z = true) : (Jvm.Cond.static ({ cls := "java/lang/StringUTF16", name := "charAt", desc := "([BI)C" } : Jvm.MethodName)).before a0 Z = true := hw _ (List.mem_of_getElem? (i := 123) rfl)
theorem w_124 {a0 : Array Value} {Z : State} (hw : ∀ d ∈ tables_1, d.before a0 Z = true) : (Jvm.Cond.code ({ cls := "java/lang/StringUTF16", name := "charAt", desc := "([BI)C" } : Jvm.MethodName) jdk_52_method_83_code (2 : Nat) (Option.some Jvm.ClassFile.FieldType.char)).before a0 Z = true := hw _ (List.mem_of_getElem? (i := 124) rfl)
theorem w_125 {a0 : Array Value} {Z : State} (hw : ∀ d ∈ tables_1, d.before a0 Z = true) : (Jvm.Cond.methodLink "java/lang/StringUTF16" (67 : Nat) ({ cls := "java/lang/StringUTF16", name := "checkIndex", desc := "(I[B)V" } : Jvm.MethodName)).before a0 Z = true := hw _ (List.mem_of_getElem? (i := 125) rfl)
theorem w_126 {a0 : Array Value} {Z : State} (hw : ∀ d ∈ tables_1, d.before a0 Z = true) : (Jvm.Cond.static ({ cls := "java/lang/StringUTF16", name := "checkIndex", desc := "(I[B)V" } : Jvm.MethodName)).before a0 Z = true := hw _ (List.mem_of_getElem? (i := 126) rfl)
theorem w_127 {a0 : Array Value} {Z : State} (hw : ∀ d ∈ tables_1, d.before a0 Z = true) : (Jvm.Cond.code ({ cls := "java/lang/StringUTF16", name := "checkIndex", desc := "(I[B)V" } : Jvm.MethodName) jdk_52_method_91_code (2 : Nat) (Option.none : Option Jvm.ClassFile.FieldType)).before a0 Z = true := hw _ (List.mem_of_getElem? (i := 127) rfl)
theorem w_128 {a0 : Array Value} {Z : State} (hw : ∀ d ∈ tables_1, d.before a0 Z = true) : (Jvm.Cond.methodLink "java/lang/StringUTF16" (48 : Nat) ({ cls := "java/lang/StringUTF16", name := "length", desc := "([B)I" } : Jvm.MethodName)).before a0 Z = true := hw _ (List.mem_of_getElem? (i := 128) rfl)
theorem w_129 {a0 : Array Value} {Z : State} (hw : ∀ d ∈ tables_1, d.before a0 Z = true) : (Jvm.Cond.static ({ cls := "java/lang/StringUTF16", name := "length", desc := "([B)I" } : Jvm.MethodName)).before a0 Z = true := hw _ (List.mem_of_getElem? (i := 129) rfl)
theorem w_130 {a0 : Array Value} {Z : State} (hw : ∀ d ∈ tables_1, d.before a0 Z = true) : (Jvm.Cond.code ({ cls := "java/lang/StringUTF16", name := "length", desc := "([B)I" } : Jvm.MethodName) jdk_52_method_6_code (1 : Nat) (Option.some Jvm.ClassFile.FieldType.int)).before a0 Z = true := hw _ (List.mem_of_getElem? (i := 130) rfl)
theorem w_131 {a0 : Array Value} {Z : State} (hw : ∀ d ∈ tables_1, d.before a0 Z = true) : (Jvm.Cond.methodLink "java/lang/StringUTF16" (414 : Nat) ({ cls := "java/lang/String", name := "checkIndex", desc := "(II)V" } : Jvm.MethodName)).before a0 Z = true := hw _ (List.mem_of_getElem? (i := 131) rfl)
theorem w_132 {a0 : Array Value} {Z : State} (hw : ∀ d ∈ tables_1, d.before a0 Z = true) : (Jvm.Cond.static ({ cls := "java/lang/String", name := "checkIndex", desc := "(II)V" } : Jvm.MethodName)).before a0 Z = true := hw _ (List.mem_of_getElem? (i := 132) rfl)
theorem w_133 {a0 : Array Value} {Z : State} (hw : ∀ d ∈ tables_1, d.before a0 Z = true) : (Jvm.Cond.code ({ cls := "java/lang/String", name := "checkIndex", desc := "(II)V" } : Jvm.MethodName) jdk_42_method_155_code (2 : Nat) (Option.none : Option Jvm.ClassFile.FieldType)).before a0 Z = true := hw _ (List.mem_of_getElem? (i := 133) rfl)
theorem w_134 {a0 : Array Value} {Z : State} (hw : ∀ d ∈ tables_1, d.before a0 Z = true) : (Jvm.Cond.fieldLink "java/lang/String" (1053 : Nat) "jdk/internal/util/Preconditions" "SIOOBE_FORMATTER" "Ljava/util/function/BiFunction;").before a0 Z = true := hw _ (List.mem_of_getElem? (i := 134) rfl)
theorem w_135 {a0 : Array Value} {Z : State} (hw : ∀ d ∈ tables_1, d.before a0 Z = true) : (Jvm.Cond.initialized "jdk/internal/util/Preconditions").before a0 Z = true := hw _ (List.mem_of_getElem? (i := 135) rfl)
theorem w_136 {a0 : Array Value} {Z : State} (hw : ∀ d ∈ tables_1, d.before a0 Z = true) : (Jvm.Cond.methodLink "java/lang/String" (1059 : Nat) ({ cls := "jdk/internal/util/Preconditions", name := "checkIndex", desc := "(IILjava/util/function/BiFunction;)I" } : Jvm.MethodName)).before a0 Z = true := hw _ (List.mem_of_getElem? (i := 136) rfl)
theorem w_137 {a0 : Array Value} {Z : State} (hw : ∀ d ∈ tables_1, d.before a0 Z = true) : (Jvm.Cond.static ({ cls := "jdk/internal/util/Preconditions", name := "checkIndex", desc := "(IILjava/util/function/BiFunction;)I" } : Jvm.MethodName)).before a0 Z = true := hw _ (List.mem_of_getElem? (i := 137) rfl)
theorem w_138 {a0 : Array Value} {Z : State} (hw : ∀ d ∈ tables_1, d.before a0 Z = true) : (Jvm.Cond.code ({ cls := "jdk/internal/util/Preconditions", name := "checkIndex", desc := "(IILjava/util/function/BiFunction;)I" } : Jvm.MethodName) jdk_41_method_11_code (3 : Nat) (Option.some Jvm.ClassFile.FieldType.int)).before a0 Z = true := hw _ (List.mem_of_getElem? (i := 138) rfl)
theorem w_139 {a0 : Array Value} {Z : State} (hw : ∀ d ∈ tables_1, d.before a0 Z = true) : (Jvm.Cond.methodLink "java/lang/String" (1021 : Nat) ({ cls := "java/lang/StringUTF16", name := "toBytes", desc := "(C)[B" } : Jvm.MethodName)).before a0 Z = true := hw _ (List.mem_of_getElem? (i := 139) rfl)
theorem w_140 {a0 : Array Value} {Z : State} (hw : ∀ d ∈ tables_1, d.before a0 Z = true) : (Jvm.Cond.static ({ cls := "java/lang/StringUTF16", name := "toBytes", desc := "(C)[B" } : Jvm.MethodName)).before a0 Z = true := hw _ (List.mem_of_getElem? (i := 140) rfl)
theorem w_141 {a0 : Array Value} {Z : State} (hw : ∀ d ∈ tables_1, d.before a0 Z = true) : (Jvm.Cond.code ({ cls := "java/lang/StringUTF16", name := "toBytes", desc := "(C)[B" } : Jvm.MethodName) jdk_52_method_24_code (2 : Nat) (Option.some (Jvm.ClassFile.FieldType.array Jvm.ClassFile.FieldType.byte))).before a0 Z = true := hw _ (List.mem_of_getElem? (i := 141) rfl)
theorem w_142 {a0 : Array Value} {Z : State} (hw : ∀ d ∈ tables_1, d.before a0 Z = true) : (Jvm.Cond.methodLink "com/example/tuned_odds/tunedodds/retrieval/CodePointOrder" (23 : Nat) ({ cls := "com/example/tuned_odds/tunedodds/retrieval/CodePointOrder", name := "rank", desc := "(C)I" } : Jvm.MethodName)).before a0 Z = true := hw _ (List.mem_of_getElem? (i := 142) rfl)
theorem w_143 {a0 : Array Value} {Z : State} (hw : ∀ d ∈ tables_1, d.before a0 Z = true) : (Jvm.Cond.static ({ cls := "com/example/tuned_odds/tunedodds/retrieval/CodePointOrder", name := "rank", desc := "(C)I" } : Jvm.MethodName)).before a0 Z = true := hw _ (List.mem_of_getElem? (i := 143) rfl)
theorem w_144 {a0 : Array Value} {Z : State} (hw : ∀ d ∈ tables_1, d.before a0 Z = true) : (Jvm.Cond.code ({ cls := "com/example/tuned_odds/tunedodds/retrieval/CodePointOrder", name := "rank", desc := "(C)I" } : Jvm.MethodName) prog_42_method_3_code (2 : Nat) (Option.some Jvm.ClassFile.FieldType.int)).before a0 Z = true := hw _ (List.mem_of_getElem? (i := 144) rfl)
theorem w_145 {a0 : Array Value} {Z : State} (hw : ∀ d ∈ tables_1, d.before a0 Z = true) : (Jvm.Cond.constant "com/example/tuned_odds/tunedodds/retrieval/CodePointOrder" (34 : Nat) (57344 : Int32)).before a0 Z = true := hw _ (List.mem_of_getElem? (i := 145) rfl)
theorem w_146 {a0 : Array Value} {Z : State} (hw : ∀ d ∈ tables_1, d.before a0 Z = true) : (Jvm.Cond.methodLink "com/example/tuned_odds/tunedodds/retrieval/CodePointOrder" (35 : Nat) ({ cls := "java/lang/Character", name := "isSurrogate", desc := "(C)Z" } : Jvm.MethodName)).before a0 Z = true := hw _ (List.mem_of_getElem? (i := 146) rfl)
theorem w_147 {a0 : Array Value} {Z : State} (hw : ∀ d ∈ tables_1, d.before a0 Z = true) : (Jvm.Cond.static ({ cls := "java/lang/Character", name := "isSurrogate", desc := "(C)Z" } : Jvm.MethodName)).before a0 Z = true := hw _ (List.mem_of_getElem? (i := 147) rfl)
theorem w_148 {a0 : Array Value} {Z : State} (hw : ∀ d ∈ tables_1, d.before a0 Z = true) : (Jvm.Cond.initialized "java/lang/Character").before a0 Z = true := hw _ (List.mem_of_getElem? (i := 148) rfl)
theorem w_149 {a0 : Array Value} {Z : State} (hw : ∀ d ∈ tables_1, d.before a0 Z = true) : (Jvm.Cond.code ({ cls := "java/lang/Character", name := "isSurrogate", desc := "(C)Z" } : Jvm.MethodName) jdk_89_method_16_code (1 : Nat) (Option.some Jvm.ClassFile.FieldType.boolean)).before a0 Z = true := hw _ (List.mem_of_getElem? (i := 149) rfl)
theorem w_150 {a0 : Array Value} {Z : State} (hw : ∀ d ∈ tables_1, d.before a0 Z = true) : (Jvm.Cond.constant "java/lang/Character" (75 : Nat) (55296 : Int32)).before a0 Z = true := hw _ (List.mem_of_getElem? (i := 150) rfl)
theorem w_151 {a0 : Array Value} {Z : State} (hw : ∀ d ∈ tables_1, d.before a0 Z = true) : (Jvm.Cond.constant "java/lang/Character" (77 : Nat) (57344 : Int32)).before a0 Z = true := hw _ (List.mem_of_getElem? (i := 151) rfl)
theorem w_152 {a0 : Array Value} {Z : State} (hw : ∀ d ∈ tables_1, d.before a0 Z = true) : (Jvm.Cond.methodLink "java/lang/String" (495 : Nat) ({ cls := "java/lang/StringLatin1", name := "charAt", desc := "([BI)C" } : Jvm.MethodName)).before a0 Z = true := hw _ (List.mem_of_getElem? (i := 152) rfl)
theorem w_153 {a0 : Array Value} {Z : State} (hw : ∀ d ∈ tables_1, d.before a0 Z = true) : (Jvm.Cond.static ({ cls := "java/lang/StringLatin1", name := "charAt", desc := "([BI)C" } : Jvm.MethodName)).before a0 Z = true := hw _ (List.mem_of_getElem? (i := 153) rfl)
theorem w_154 {a0 : Array Value} {Z : State} (hw : ∀ d ∈ tables_1, d.before a0 Z = true) : (Jvm.Cond.code ({ cls := "java/lang/StringLatin1", name := "charAt", desc := "([BI)C" } : Jvm.MethodName) jdk_43_method_2_code (2 : Nat) (Option.some Jvm.ClassFile.FieldType.char)).before a0 Z = true := hw _ (List.mem_of_getElem? (i := 154) rfl)
theorem w_155 {a0 : Array Value} {Z : State} (hw : ∀ d ∈ tables_1, d.before a0 Z = true) : (Jvm.Cond.methodLink "java/lang/StringLatin1" (9 : Nat) ({ cls := "java/lang/String", name := "checkIndex", desc := "(II)V" } : Jvm.MethodName)).before a0 Z = true := hw _ (List.mem_of_getElem? (i := 155) rfl)
theorem own_wS {a0 : Array Value} {Z : State} (hw : ∀ d ∈ tables_1, d.before a0 Z = true) : ∀ a ∈ Bundle.stringAtoms, a.before a0 Z = true := fun a ha => hw a ((by decide +kernel : ∀ a ∈ Bundle.stringAtoms, a ∈ tables_1) a ha)
theorem own_eq_int {args : Array Value} {s : State} {t : Term} {k : Int32} (h : (Jvm.Cond.eq t (Jvm.Term.int k)).value args s none s [] = some true) : t.eval args s none [] s = some (.int k) := by
  simp only [Cond.value, Term.int_eval] at h
  cases ht : t.eval args s none [] s with
  | none => simp [ht] at h
  | some v =>
    cases v <;> simp [ht] at h
    subst h; rfl
theorem own_len_start {args : Array Value} {s : State} {t : Term} {a : Addr} {c : Cell} {ty : FieldType} {k : Int32} (ev : t.eval args s none [] s = some (.ref a)) (A : Arr s s.heap a c ty) (h : (Jvm.Cond.eq (Jvm.Term.length t) (Jvm.Term.int k)).value args s none s [] = some true) : c.slots.size < 2 ^ 31 ∧ c.slots.size.toInt32 = k := by
  have q := own_eq_int h
  have e := A.fin (Vm.Alike.refl _)
  simp only [Term.eval, ev, Option.bind_eq_bind, Option.bind_some, e] at q
  split at q
  · rename_i hh
    exact ⟨hh, by simpa using q⟩
  · cases q
theorem own_elem_start {args : Array Value} {s : State} {t : Term} {a : Addr} {c : Cell} {ty : FieldType} {i : Int32} {v : Value} (ev : t.eval args s none [] s = some (.ref a)) (A : Arr s s.heap a c ty) (h : (Jvm.Term.elem t (Jvm.Term.int i)).eval args s none [] s = some v) : c.slots[i.toNatClampNeg]? = some v := by
  obtain ⟨a', j, c', e1, e2, e3, -, e5⟩ := Term.elem_spec h
  cases ev.symm.trans e1
  cases (A.fin (Vm.Alike.refl _)).symm.trans e3
  have e2' : (Jvm.Term.int i).eval args s none [] s = some (.int i) := Term.int_eval _
  cases e2'.symm.trans e2
  exact e5
theorem own_field_start {args : Array Value} {s : State} {t : Term} {a : Addr} {C n d : String} {v : Value} (ev : t.eval args s none [] s = some (.ref a)) (h : (Jvm.Term.field t C n d).eval args s none [] s = some v) : Fld s s.heap a C n d v := Fld.start (by simpa [Term.eval, ev] using h)
theorem own_ref_start {args : Array Value} {s : State} {a b : Term} {y : Value} (h : (Jvm.Cond.eq a b).value args s none s [] = some true) (hb : b.eval args s none [] s = some y) (hy : y.isRef = true) : a.eval args s none [] s = some y := Cond.eq_refs (by simp only [Cond.holds, h]; rfl) hb hy
theorem own_fits_ref {C : String} {v : Value} (h : v.isRef = true) : fits (.object C) v = true := by cases v <;> simp [Value.isRef] at h <;> rfl
theorem own_cat_ref {v : Value} (h : v.isRef = true) : v.category = 1 := by cases v <;> simp [Value.isRef] at h <;> rfl
theorem own_ins_keep {Z : State} {h h' : Heap} {a : Addr} {C : String} {ws : List Addr} (F : Ins Z h a C true) (K : Keep h h' ws) : Ins Z h' a C true := by
  obtain ⟨cell, cT, h1, h2, h3⟩ := F
  obtain ⟨c', q1, q2, q3, -⟩ := K.2.2 a cell h1
  exact ⟨c', cT, q1, h2, by rw [q2, q3]; exact h3⟩
def EL : List (String × Nat) := [("java/lang/String", 7)]
theorem hEL {a0 : Array Value} {Z : State} (hw : ∀ d ∈ tables_1, d.before a0 Z = true) : EW Z a0 EL := (EW.cons (w_24 hw) (by decide) EW.nil)
theorem own_ELsub : ∀ q ∈ EL, q ∈ consts_1 := by decide
def Gl (Z : State) (zc : Int32) (fm : Value) : Prop := (Sta Z Z.heap "java/lang/String" "COMPACT_STRINGS" "Z" (.int zc)) ∧ (¬ zc = 0) ∧ (Sta Z Z.heap "jdk/internal/util/Preconditions" "SIOOBE_FORMATTER" "Ljava/util/function/BiFunction;" fm) ∧ (fm.isRef = true) ∧ (Sta Z Z.heap "java/lang/StringUTF16" "$assertionsDisabled" "Z" (.int (1 : Int32))) ∧ (Sta Z Z.heap "java/lang/StringUTF16" "HI_BYTE_SHIFT" "I" (.int (0 : Int32))) ∧ (Sta Z Z.heap "java/lang/StringUTF16" "LO_BYTE_SHIFT" "I" (.int (8 : Int32)))
set_option maxRecDepth 65536 in
set_option maxHeartbeats 40000000 in
theorem own_cmp5 (l : Launch) (Z : State) (a0 : Array Value) (hw : ∀ d ∈ tables_1, d.before a0 Z = true) {zc : Int32} {fm : Value}  (G : Gl Z zc fm) (n0 : Nat) (h0 : Heap) (O0 : Old Z n0 h0) (b : Nat) (d : Nat) (kb : ClassId) (kd : ClassId) (z : Int32) (cs : List Int32) (vs : List Value) (hne : b ≠ d) (hz : z = Int32.ofNat cs.length) (hn : cs.length < 2147483648) (hv : vs.length = cs.length) (gw0 : n0 ≤ d) (q0 : Arv Z h0 b kb .char z (cs.map Value.int) (.int 0)) (q1 : Arv Z h0 d kd .byte z vs (.int (0 : Int32))) :
    MetF l [] Z n0 (⟨"java/lang/StringUTF16", "compress", "([CI[BII)I"⟩ : MethodName) jdk_52_method_21_code 7 (Option.some FieldType.int) ({ frames := 0, cells := 0, slots := 0, locals := 0 } : Room) #[(.ref b), (.int (0 : Int32)), (.ref d), (.int (0 : Int32)), (.int z)] h0 [d] (fun r h' => ∃ w, r = some w ∧ w = (.int (Int32.ofNat (own_fst cs))) ∧ (Arv Z h' d kd .byte z ((cs.take (own_fst cs)).map own_lo ++ vs.drop (own_fst cs)) (.int (0 : Int32)))) := by
  refine metF (plainFor_of_name pn_0) O0 (Ls := #[.val (.ref b), .val (.int (0 : Int32)), .val (.ref d), .val (.int (0 : Int32)), .val (.int z), .unset, .unset]) (fun m => by first | rfl | (simp [entryFrame, mkF, argsToLocals, Value.category]; done)) ?_
  intro p e s m below meth c T0 X0
  have K0_h0 := Keep.refl h0 [d]
  have n0le := X0.n0le
  have ltq0 := own_n q0.lt
  have ltq1 := own_n q1.lt
  obtain ⟨G_cs, G_zc, G_fm, isref_fm, G_assertionsDisabled, G_HI_BYTE_SHIFT, G_LO_BYTE_SHIFT⟩ := id G
  have hfl := own_fst_le cs
  have hlt0 := hn
  have loop : ∀ (n i : Nat) (T : State) (h : Heap) (L : List Loc) (s6 : Slot), n = own_fst cs - i → i ≤ own_fst cs → One s6 → WP p l e ({ frames := 0, cells := 0, slots := 0, locals := 0 } : Room) s m #[(.ref b), (.int (0 : Int32)), (.ref d), (.int (0 : Int32)), (.int z)] below meth c Z "java/lang/StringUTF16" "compress" jdk_52_method_21_code 7 (Option.some FieldType.int) n0 (fun _ => True) (fun _ _ => True) T h L 0 0 → Keep h0 h [d] → Arv Z h b kb .char z (cs.map Value.int) (.int 0) → Arv Z h d kd .byte z ((cs.take i).map own_lo ++ vs.drop i) (.int (0 : Int32)) → Run p.tables e below (PF s below n0 h0 [d] (fun r h' => ∃ w, r = some w ∧ w = (.int (Int32.ofNat (own_fst cs))) ∧ (Arv Z h' d kd .byte z ((cs.take (own_fst cs)).map own_lo ++ vs.drop (own_fst cs)) (.int (0 : Int32)))) ({ frames := 0, cells := 0, slots := 0, locals := 0 } : Room).cells ({ frames := 0, cells := 0, slots := 0, locals := 0 } : Room).slots) T (mkF m 3 #[.val (.ref b), .val (.int (Int32.ofNat i)), .val (.ref d), .val (.int (Int32.ofNat i)), .val (.int z), .val (.int (Int32.ofNat i)), s6] []) := by
    intro n
    induction n with
    | zero =>
      intro i T h L s6 hni hij h6 X K Vb Vd
      have hi : i = own_fst cs := by omega
      subst hi
      have lb := own_n Vb.lt
      have ld := own_n Vd.lt
      have lh0 := K.1
      have lb0 := own_n q0.lt
      have ld0 := own_n q1.lt
      have nle := X.n0le
      by_cases hc1 : own_fst cs < cs.length
      · have hlt := own_lt hc1 hn
        rw [← hz] at hlt
        refine k_iload X d_jdk_52_21_3 rfl (pc' := 5) rfl ?_
        refine k_iload X d_jdk_52_21_5 rfl (pc' := 7) rfl ?_
        refine k_icmpNo X d_jdk_52_21_7 (tlt hlt).2.1 (pc' := 10) rfl ?_
        refine k_aloadN X d_jdk_52_21_10 rfl rfl (pc' := 11) rfl ?_
        refine k_iloadN X d_jdk_52_21_11 rfl (pc' := 12) rfl ?_
        refine k_caload X d_jdk_52_21_12 Vb (own_nn (by omega)) hlt (v := (.int (cs.getD (own_fst cs) 0))) (own_getc' cs (by omega)) (pc' := 13) rfl ?_
        refine k_istore X d_jdk_52_21_13 (Ls' := #[.val (.ref b), .val (.int (Int32.ofNat (own_fst cs))), .val (.ref d), .val (.int (Int32.ofNat (own_fst cs))), .val (.int z), .val (.int (Int32.ofNat (own_fst cs))), .val (.int (cs.getD (own_fst cs) 0))]) (own_store h6 ⟨_, rfl⟩) (pc' := 15) rfl ?_
        refine k_iload X d_jdk_52_21_15 rfl (pc' := 17) rfl ?_
        refine k_sipush X d_jdk_52_21_17 (w := (255 : Int32)) rfl (pc' := 20) rfl ?_
        refine k_icmpNo X d_jdk_52_21_20 (tlt (own_fst_hi cs hc1)).2.2.2 (pc' := 23) rfl ?_
        refine k_iload X d_jdk_52_21_23 rfl (pc' := 25) rfl ?_
        exact k_retFI X d_jdk_52_21_25 rfl K ⟨_, rfl, rfl, Vd⟩ (by decide) (by decide)
      · have he : own_fst cs = cs.length := by omega
        have hnl : ¬ (Int32.ofNat (own_fst cs) < z) := by rw [he, ← hz]; exact Int32.lt_irrefl
        refine k_iload X d_jdk_52_21_3 rfl (pc' := 5) rfl ?_
        refine k_iload X d_jdk_52_21_5 rfl (pc' := 7) rfl ?_
        refine k_icmpYes X d_jdk_52_21_7 (flt hnl).2.1 (pc' := 44) (by decide) (by decide) ?_
        refine k_iload X d_jdk_52_21_44 rfl (pc' := 46) rfl ?_
        exact k_retFI X d_jdk_52_21_46 rfl K ⟨_, rfl, by rw [he, ← hz], Vd⟩ (by decide) (by decide)
    | succ n ih =>
      intro i T h L s6 hni hij h6 X K Vb Vd
      have hi : i < own_fst cs := by omega
      have hlt := own_lt (show i < cs.length by omega) hn
      rw [← hz] at hlt
      have hle := own_fst_lo cs i hi
      have lb := own_n Vb.lt
      have ld := own_n Vd.lt
      have lh0 := K.1
      have lb0 := own_n q0.lt
      have ld0 := own_n q1.lt
      have nle := X.n0le
      refine k_iload X d_jdk_52_21_3 rfl (pc' := 5) rfl ?_
      refine k_iload X d_jdk_52_21_5 rfl (pc' := 7) rfl ?_
      refine k_icmpNo X d_jdk_52_21_7 (tlt hlt).2.1 (pc' := 10) rfl ?_
      refine k_aloadN X d_jdk_52_21_10 rfl rfl (pc' := 11) rfl ?_
      refine k_iloadN X d_jdk_52_21_11 rfl (pc' := 12) rfl ?_
      refine k_caload X d_jdk_52_21_12 Vb (own_nn (by omega)) hlt (v := (.int (cs.getD i 0))) (own_getc' cs (by omega)) (pc' := 13) rfl ?_
      refine k_istore X d_jdk_52_21_13 (Ls' := #[.val (.ref b), .val (.int (Int32.ofNat i)), .val (.ref d), .val (.int (Int32.ofNat i)), .val (.int z), .val (.int (Int32.ofNat i)), .val (.int (cs.getD i 0))]) (own_store h6 ⟨_, rfl⟩) (pc' := 15) rfl ?_
      refine k_iload X d_jdk_52_21_15 rfl (pc' := 17) rfl ?_
      refine k_sipush X d_jdk_52_21_17 (w := (255 : Int32)) rfl (pc' := 20) rfl ?_
      refine k_icmpYes X d_jdk_52_21_20 (flt hle).2.2.2 (pc' := 26) (by decide) (by decide) ?_
      refine k_aloadN X d_jdk_52_21_26 rfl rfl (pc' := 27) rfl ?_
      refine k_iloadN X d_jdk_52_21_27 rfl (pc' := 28) rfl ?_
      refine k_iload X d_jdk_52_21_28 rfl (pc' := 30) rfl ?_
      refine k_i2b X d_jdk_52_21_30 (w := ((cs.getD i 0).toInt8.toInt32)) rfl (pc' := 31) rfl ?_
      have ge3 : n0 ≤ d := by omega
      refine k_bastore X (w := ((cs.getD i 0).toInt8.toInt32)) (i) d_jdk_52_21_31 Vd (own_nn (by omega)) hlt (own_clamp (by omega)) (by simp; omega) (own_i2b _) (vs' := ((cs.take (i + 1)).map own_lo ++ vs.drop (i + 1))) (own_turn cs vs i (by omega) hv) trivial ge3 (pc' := 32) rfl fun T2 h2 L2 X2 K2 V2 => ?_
      have sz_h2 := K2.1
      have K0_h2 : Keep h0 h2 [d] := K.trans K2 (allS (Or.inl (List.mem_of_getElem? (i := 0) rfl)) all0)
      refine k_iinc X2 d_jdk_52_21_32 rfl (w := (Int32.ofNat (i + 1))) (own_succ i) (Ls' := #[.val (.ref b), .val (.int (Int32.ofNat (i + 1))), .val (.ref d), .val (.int (Int32.ofNat i)), .val (.int z), .val (.int (Int32.ofNat i)), .val (.int (cs.getD i 0))]) rfl (pc' := 35) rfl ?_
      refine k_iinc X2 d_jdk_52_21_35 rfl (w := (Int32.ofNat (i + 1))) (own_succ i) (Ls' := #[.val (.ref b), .val (.int (Int32.ofNat (i + 1))), .val (.ref d), .val (.int (Int32.ofNat (i + 1))), .val (.int z), .val (.int (Int32.ofNat i)), .val (.int (cs.getD i 0))]) rfl (pc' := 38) rfl ?_
      refine k_iinc X2 d_jdk_52_21_38 rfl (w := (Int32.ofNat (i + 1))) (own_succ i) (Ls' := #[.val (.ref b), .val (.int (Int32.ofNat (i + 1))), .val (.ref d), .val (.int (Int32.ofNat (i + 1))), .val (.int z), .val (.int (Int32.ofNat (i + 1))), .val (.int (cs.getD i 0))]) rfl (pc' := 41) rfl ?_
      refine k_goto X2 d_jdk_52_21_41 (pc' := 3) (by decide) (by decide) ?_
      have c4 := (Vb.keep K2 (ninS (own_ne (by omega) : b ≠ d) nin0))
      exact ih (i + 1) _ _ _ _ (by omega) (by omega) (One.val rfl) X2 K0_h2 c4 V2
  refine k_iconst X0 d_jdk_52_21_0 (w := (0 : Int32)) rfl (pc' := 1) rfl ?_
  refine k_istore X0 d_jdk_52_21_1 (Ls' := #[.val (.ref b), .val (.int (0 : Int32)), .val (.ref d), .val (.int (0 : Int32)), .val (.int z), .val (.int (0 : Int32)), .unset]) rfl (pc' := 3) rfl ?_
  exact loop _ 0 _ _ _ _ rfl (by omega) One.u X0 K0_h0 q0 (by simpa using q1)
set_option maxRecDepth 65536 in
set_option maxHeartbeats 40000000 in
theorem own_cmp3L (l : Launch) (Z : State) (a0 : Array Value) (hw : ∀ d ∈ tables_1, d.before a0 Z = true) {zc : Int32} {fm : Value}  (G : Gl Z zc fm) (n0 : Nat) (h0 : Heap) (O0 : Old Z n0 h0) (b : Nat) (kb : ClassId) (z : Int32) (cs : List Int32) (hz : z = Int32.ofNat cs.length) (hn : cs.length ≤ 4) (hall : ∀ c ∈ cs, ¬ 255 < c)  (q0 : Arv Z h0 b kb .char z (cs.map Value.int) (.int 0)) :
    MetF l [] Z n0 (⟨"java/lang/StringUTF16", "compress", "([CII)[B"⟩ : MethodName) jdk_52_method_16_code 6 (Option.some (FieldType.array FieldType.byte)) ({ frames := 1, cells := 1, slots := 4, locals := 18 } : Room) #[(.ref b), (.int (0 : Int32)), (.int z)] h0 [] (fun r h' => ∃ w, r = some w ∧ ∃ (t : Nat), ∃ (kt : ClassId), w = (.ref t) ∧ (Arv Z h' t kt .byte z (own_lat cs) (.int (0 : Int32))) ∧ (h0.size ≤ t)) := by
  refine metF (plainFor_of_name pn_0) O0 (Ls := #[.val (.ref b), .val (.int (0 : Int32)), .val (.int z), .unset, .unset, .unset]) (fun m => by first | rfl | (simp [entryFrame, mkF, argsToLocals, Value.category]; done)) ?_
  intro p e s m below meth c T0 X0
  have K0_h0 := Keep.refl h0 []
  have n0le := X0.n0le
  have ltq0 := own_n q0.lt
  obtain ⟨G_cs, G_zc, G_fm, isref_fm, G_assertionsDisabled, G_HI_BYTE_SHIFT, G_LO_BYTE_SHIFT⟩ := id G
  have hf := own_fst_all cs hall
  have hnz : ¬ z < 0 := by rw [hz]; exact own_nn (by omega)
  have hcl : z.toNatClampNeg = cs.length := by rw [hz]; exact own_clamp (by omega)
  refine k_iloadN X0 d_jdk_52_16_0 rfl (pc' := 1) rfl ?_
  refine k_newP X0 d_jdk_52_16_1 (w_25 hw) hnz (cap := 4) (by omega) (by decide) (by decide) (by decide) (pc' := 3) rfl fun T5 h5 b5 k5 g5 X5 K5 V5 S5 lt5 ge5 => ?_
  have sz_h5 := K5.1
  have K0_h5 : Keep h0 h5 [] := K0_h0.trans K5 all0
  have Vp : Arv Z h5 b5 k5 .byte z (List.replicate cs.length (.int (0 : Int32))) (.int (0 : Int32)) := Arv.pad V5 (fun i => by simpa using pad_rep [] (.int (0 : Int32)) cs.length i)
  refine k_astoreN X5 d_jdk_52_16_3 rfl (Ls' := #[.val (.ref b), .val (.int (0 : Int32)), .val (.int z), .val (.ref b5), .unset, .unset]) rfl (pc' := 4) rfl ?_
  refine k_aloadN X5 d_jdk_52_16_4 rfl rfl (pc' := 5) rfl ?_
  refine k_iloadN X5 d_jdk_52_16_5 rfl (pc' := 6) rfl ?_
  refine k_aloadN X5 d_jdk_52_16_6 rfl rfl (pc' := 7) rfl ?_
  refine k_iconst X5 d_jdk_52_16_7 (w := (0 : Int32)) rfl (pc' := 8) rfl ?_
  refine k_iloadN X5 d_jdk_52_16_8 rfl (pc' := 9) rfl ?_
  have c6 := (q0.keep K5 nin0)
  have ge7 : n0 ≤ b5 := by omega
  refine k_callSVF X5 (y := (⟨"java/lang/StringUTF16", "compress", "([CI[BII)I"⟩ : MethodName)) d_jdk_52_16_9 (w_80 hw) (w_81 hw) (w_78 hw) (w_82 hw) (by decide) (argsL := [(.ref b), (.int (0 : Int32)), (.ref b5), (.int (0 : Int32)), (.int z)]) (rest := []) (own_cmp5 l Z a0 hw G n0 h5 X5.old b b5 kb k5 z cs (List.replicate cs.length (.int (0 : Int32))) (by omega) hz (by omega) (by simp) (by omega) c6 Vp) rfl pd_0 rfl rfl (by decide) (W := 0) (Nat.le_of_eq rfl) (by decide) (by decide) (by decide) (allS ⟨trivial, ge7⟩ all0) (pc' := 12) rfl ?_
  rintro _ T8 h8 L8 X8 K8 ⟨rfl, q8_0⟩
  have sz_h8 := K8.1
  have K0_h8 : Keep h0 h8 [] := K0_h5.trans K8 (allS (Or.inr (by omega)) all0)
  have lt8_0 := own_n q8_0.lt
  refine k_istore X8 d_jdk_52_16_12 (Ls' := #[.val (.ref b), .val (.int (0 : Int32)), .val (.int z), .val (.ref b5), .val (.int (Int32.ofNat (own_fst cs))), .unset]) rfl (pc' := 14) rfl ?_
  refine k_iload X8 d_jdk_52_16_14 rfl (pc' := 16) rfl ?_
  refine k_iloadN X8 d_jdk_52_16_16 rfl (pc' := 17) rfl ?_
  have hz2 : Int32.ofNat (own_fst cs) = z := by rw [hf, ← hz]
  refine k_icmpYes X8 d_jdk_52_16_17 (teq hz2).1 (pc' := 57) (by decide) (by decide) ?_
  refine k_aloadN X8 d_jdk_52_16_57 rfl rfl (pc' := 58) rfl ?_
  have Vl : Arv Z h8 b5 k5 .byte z (own_lat cs) (.int (0 : Int32)) := by simpa [hf, own_lat] using q8_0
  exact k_retFA X8 d_jdk_52_16_58 rfl rfl rfl rfl K0_h8 ⟨_, rfl, _, _, rfl, Vl, by omega⟩ (by decide) (by decide)
set_option maxRecDepth 65536 in
set_option maxHeartbeats 40000000 in
theorem own_codL (l : Launch) (Z : State) (a0 : Array Value) (hw : ∀ d ∈ tables_1, d.before a0 Z = true) {zc : Int32} {fm : Value}  (G : Gl Z zc fm) (n0 : Nat) (h0 : Heap) (O0 : Old Z n0 h0) (d : Nat) (k : ClassId) (z : Int32) (bs : List Value) (dv : Value)  (q0 : Arv Z h0 d k .byte z bs dv) :
    MetF l [] Z n0 (⟨"java/lang/StringUTF16", "coderFromArrayLen", "([BI)B"⟩ : MethodName) jdk_52_method_15_code 2 (Option.some FieldType.byte) ({ frames := 0, cells := 0, slots := 0, locals := 0 } : Room) #[(.ref d), (.int z)] h0 [] (fun r h' => ∃ w, r = some w ∧ w = (.int (0 : Int32)) ∧ True) := by
  refine metF (plainFor_of_name pn_0) O0 (Ls := #[.val (.ref d), .val (.int z)]) (fun m => by first | rfl | (simp [entryFrame, mkF, argsToLocals, Value.category]; done)) ?_
  intro p e s m below meth c T0 X0
  have K0_h0 := Keep.refl h0 []
  have n0le := X0.n0le
  have ltq0 := own_n q0.lt
  obtain ⟨G_cs, G_zc, G_fm, isref_fm, G_assertionsDisabled, G_HI_BYTE_SHIFT, G_LO_BYTE_SHIFT⟩ := id G
  refine k_iloadN X0 d_jdk_52_15_0 rfl (pc' := 1) rfl ?_
  refine k_aloadN X0 d_jdk_52_15_1 rfl rfl (pc' := 2) rfl ?_
  refine k_arlen X0 d_jdk_52_15_2 q0 (pc' := 3) rfl ?_
  refine k_isub X0 d_jdk_52_15_3 (w := (0 : Int32)) (Int32.sub_self z) (pc' := 4) rfl ?_
  refine k_bipush X0 d_jdk_52_15_4 (w := (31 : Int32)) rfl (pc' := 6) rfl ?_
  refine k_iushr X0 d_jdk_52_15_6 (w := (0 : Int32)) (by decide) (pc' := 7) rfl ?_
  refine k_i2b X0 d_jdk_52_15_7 (w := (0 : Int32)) (by decide) (pc' := 8) rfl ?_
  exact k_retFN X0 (w := (0 : Int32)) d_jdk_52_15_8 (t := .byte) rfl (by simp) rfl K0_h0 ⟨_, rfl, rfl, trivial⟩ (by decide) (by decide)
set_option maxRecDepth 65536 in
set_option maxHeartbeats 40000000 in
theorem own_init4L (l : Launch) (Z : State) (a0 : Array Value) (hw : ∀ d ∈ tables_1, d.before a0 Z = true) {zc : Int32} {fm : Value}  (G : Gl Z zc fm) (n0 : Nat) (h0 : Heap) (O0 : Old Z n0 h0) (a : Nat) (b : Nat) (kb : ClassId) (z : Int32) (cs : List Int32) (hz : z = Int32.ofNat cs.length) (h1 : 0 < cs.length) (hn : cs.length ≤ 4) (hall : ∀ c ∈ cs, ¬ 255 < c) (gw0 : n0 ≤ a) (q0 : Exa Z h0 a "java/lang/String") (q1 : Fld Z h0 a "java/lang/String" "value" "[B" .null) (q2 : Fld Z h0 a "java/lang/String" "coder" "B" (.int (0 : Int32))) (q3 : Arv Z h0 b kb .char z (cs.map Value.int) (.int 0)) :
    MetF l [] Z n0 (⟨"java/lang/String", "<init>", "([CIILjava/lang/Void;)V"⟩ : MethodName) jdk_42_method_149_code 6 (Option.none : Option FieldType) ({ frames := 2, cells := 1, slots := 4, locals := 35 } : Room) #[(.ref a), (.ref b), (.int (0 : Int32)), (.int z), .null] h0 [a] (fun r h' => r = none ∧ ∃ (t : Nat), ∃ (kt : ClassId), (Exa Z h' a "java/lang/String") ∧ (Fld Z h' a "java/lang/String" "coder" "B" (.int (0 : Int32))) ∧ (Fld Z h' a "java/lang/String" "value" "[B" (.ref t)) ∧ (Arv Z h' t kt .byte z (own_lat cs) (.int (0 : Int32))) ∧ (h0.size ≤ t)) := by
  refine metF (plainFor_of_name pn_1) O0 (Ls := #[.val (.ref a), .val (.ref b), .val (.int (0 : Int32)), .val (.int z), .val .null, .unset]) (fun m => by first | rfl | (simp [entryFrame, mkF, argsToLocals, Value.category]; done)) ?_
  intro p e s m below meth c T0 X0
  have K0_h0 := Keep.refl h0 [a]
  have n0le := X0.n0le
  have ltq0 := own_n q0.lt
  have ltq1 := own_n q1.lt
  have ltq2 := own_n q2.lt
  have ltq3 := own_n q3.lt
  obtain ⟨G_cs, G_zc, G_fm, isref_fm, G_assertionsDisabled, G_HI_BYTE_SHIFT, G_LO_BYTE_SHIFT⟩ := id G
  have hnz0 : ¬ z = 0 := by rw [hz]; exact own_nz h1 (by omega)
  refine k_aloadN X0 d_jdk_42_149_0 rfl rfl (pc' := 1) rfl ?_
  refine k_initO X0 d_jdk_42_149_1 (w_21 hw) (w_22 hw) (w_23 hw) rfl (by decide) (W := 0) (Nat.le_of_eq rfl) (by decide) (pc' := 4) rfl fun T10 X11 => ?_
  refine k_iloadN X11 d_jdk_42_149_4 rfl (pc' := 5) rfl ?_
  refine k_ifYes X11 d_jdk_42_149_5 ((if0 _ _).trans (feq hnz0).2) (pc' := 27) (by decide) (by decide) ?_
  refine k_getS X11 d_jdk_42_149_27 (host := "") (Or.inl (w_49 hw)) Via.refl (G_cs.ext X11.old.2) (pc' := 30) rfl fun T12 X13 => ?_
  refine k_ifNo X13 d_jdk_42_149_30 ((if0 _ _).trans (feq G_zc).1) (pc' := 33) rfl ?_
  refine k_aloadN X13 d_jdk_42_149_33 rfl rfl (pc' := 34) rfl ?_
  refine k_iloadN X13 d_jdk_42_149_34 rfl (pc' := 35) rfl ?_
  refine k_iloadN X13 d_jdk_42_149_35 rfl (pc' := 36) rfl ?_
  refine k_callSVF X13 (y := (⟨"java/lang/StringUTF16", "compress", "([CII)[B"⟩ : MethodName)) d_jdk_42_149_36 (w_76 hw) (w_77 hw) (w_78 hw) (w_79 hw) (by decide) (argsL := [(.ref b), (.int (0 : Int32)), (.int z)]) (rest := []) (own_cmp3L l Z a0 hw G n0 h0 X13.old b kb z cs hz (by omega) hall q3) rfl pd_1 rfl rfl (by decide) (W := 0) (Nat.le_of_eq rfl) (by decide) (by decide) (by decide) all0 (pc' := 39) rfl ?_
  rintro _ T16 h16 L16 X16 K16 ⟨t_14, kt_15, rfl, q16_0, q16_1⟩
  have sz_h16 := K16.1
  have K0_h16 : Keep h0 h16 [a] := K0_h0.trans K16 all0
  have lt16_0 := own_n q16_0.lt
  refine k_astore X16 d_jdk_42_149_39 rfl (Ls' := #[.val (.ref a), .val (.ref b), .val (.int (0 : Int32)), .val (.int z), .val .null, .val (.ref t_14)]) rfl (pc' := 41) rfl ?_
  refine k_aloadN X16 d_jdk_42_149_41 rfl rfl (pc' := 42) rfl ?_
  refine k_aload X16 d_jdk_42_149_42 rfl rfl (pc' := 44) rfl ?_
  refine k_iloadN X16 d_jdk_42_149_44 rfl (pc' := 45) rfl ?_
  refine k_callSVF X16 (y := (⟨"java/lang/StringUTF16", "coderFromArrayLen", "([BI)B"⟩ : MethodName)) d_jdk_42_149_45 (w_83 hw) (w_84 hw) (w_78 hw) (w_85 hw) (by decide) (argsL := [(.ref t_14), (.int z)]) (rest := [(.ref a)]) (own_codL l Z a0 hw G n0 h16 X16.old t_14 kt_15 z (own_lat cs) (.int (0 : Int32)) q16_0) rfl pd_2 rfl rfl (by decide) (W := 1) (Nat.le_of_eq rfl) (by decide) (by decide) (by decide) all0 (pc' := 48) rfl ?_
  rintro _ T18 h18 L18 X18 K18 ⟨rfl, -⟩
  have sz_h18 := K18.1
  have K0_h18 : Keep h0 h18 [a] := K0_h16.trans K18 all0
  have c20 := ((q2.keep K16 nin0).keep K18 nin0)
  have c21 := ((q0.keep K16).keep K18)
  have ge23 : n0 ≤ a := by omega
  refine k_putF X18 d_jdk_42_149_48 (host := "") (Or.inl (w_31 hw)) Via.refl c20 c21 (Or.inr ⟨(w_27 hw), rfl, X18.hnm⟩) (w_11 hw) (ty := .byte) (by decide) rfl rfl trivial ge23 (pc' := 51) rfl fun T22 h22 L22 X22 W22 K22 => ?_
  have sz_h22 := K22.1
  have K0_h22 : Keep h0 h22 [a] := K0_h18.trans K22 (allS (Or.inl (List.mem_of_getElem? (i := 0) rfl)) all0)
  have F22 := c20.same W22
  refine k_aloadN X22 d_jdk_42_149_51 rfl rfl (pc' := 52) rfl ?_
  refine k_aload X22 d_jdk_42_149_52 rfl rfl (pc' := 54) rfl ?_
  have c24 := (((q1.keep K16 nin0).keep K18 nin0).other W22 (Or.inr (slot_ne (Or.inr (w_26 hw)) (Or.inr (w_27 hw)) (by decide) (t := (.array .byte)) (t' := .byte) (by decide) (by decide))))
  have c25 := (c21.keep K22)
  have ge27 : n0 ≤ a := by omega
  refine k_putF X22 d_jdk_42_149_54 (host := "") (Or.inl (w_30 hw)) Via.refl c24 c25 (Or.inr ⟨(w_26 hw), rfl, X22.hnm⟩) (w_11 hw) (ty := (.array .byte)) (by decide) rfl rfl trivial ge27 (pc' := 57) rfl fun T26 h26 L26 X26 W26 K26 => ?_
  have sz_h26 := K26.1
  have K0_h26 : Keep h0 h26 [a] := K0_h22.trans K26 (allS (Or.inl (List.mem_of_getElem? (i := 0) rfl)) all0)
  have F26 := c24.same W26
  have c28 := (c25.keep K26)
  have c29 := (F22.other W26 (Or.inr (slot_ne (Or.inr (w_27 hw)) (Or.inr (w_26 hw)) (by decide) (t := .byte) (t' := (.array .byte)) (by decide) (by decide))))
  have c30 := (((q16_0.keep K18 nin0).keep K22 (ninS (own_ne (by omega) : t_14 ≠ a) nin0)).keep K26 (ninS (own_ne (by omega) : t_14 ≠ a) nin0))
  exact k_retFV X26 d_jdk_42_149_57 rfl K0_h26 ⟨rfl, _, _, c28, c29, F26, c30, by omega⟩ (by decide) (by decide)
set_option maxRecDepth 65536 in
set_option maxHeartbeats 40000000 in
theorem own_putC (l : Launch) (Z : State) (a0 : Array Value) (hw : ∀ d ∈ tables_1, d.before a0 Z = true) {zc : Int32} {fm : Value}  (G : Gl Z zc fm) (n0 : Nat) (h0 : Heap) (O0 : Old Z n0 h0) (d : Nat) (kd : ClassId) (zz : Int32) (vs : List Value) (i : Nat) (c0 : Int32) (hi : 2 * i + 1 < vs.length) (hzz : zz = Int32.ofNat vs.length) (hb0 : vs.length < 2147483648) (gw0 : n0 ≤ d) (q0 : Arv Z h0 d kd .byte zz vs (.int (0 : Int32))) :
    MetF l [] Z n0 (⟨"java/lang/StringUTF16", "putChar", "([BII)V"⟩ : MethodName) jdk_52_method_4_code 3 (Option.none : Option FieldType) ({ frames := 0, cells := 0, slots := 0, locals := 0 } : Room) #[(.ref d), (.int (Int32.ofNat i)), (.int c0)] h0 [d] (fun r h' => r = none ∧ (Arv Z h' d kd .byte zz ((vs.set (2 * i) (own_lo c0)).set (2 * i + 1) (own_hi c0)) (.int (0 : Int32)))) := by
  refine metF (plainFor_of_name pn_0) O0 (Ls := #[.val (.ref d), .val (.int (Int32.ofNat i)), .val (.int c0)]) (fun m => by first | rfl | (simp [entryFrame, mkF, argsToLocals, Value.category]; done)) ?_
  intro p e s m below meth c T0 X0
  have K0_h0 := Keep.refl h0 [d]
  have n0le := X0.n0le
  have ltq0 := own_n q0.lt
  obtain ⟨G_cs, G_zc, G_fm, isref_fm, G_assertionsDisabled, G_HI_BYTE_SHIFT, G_LO_BYTE_SHIFT⟩ := id G
  have l1 := own_lt (show 2 * i < vs.length by omega) hb0
  have l2 := own_lt hi hb0
  rw [← hzz] at l1 l2
  refine k_getS X0 d_jdk_52_4_0 (host := "") (Or.inl (w_106 hw)) Via.refl (G_assertionsDisabled.ext X0.old.2) (pc' := 3) rfl fun T31 X32 => ?_
  refine k_ifYes X32 d_jdk_52_4_3 (by decide) (pc' := 28) (by decide) (by decide) ?_
  refine k_iloadN X32 d_jdk_52_4_28 rfl (pc' := 29) rfl ?_
  refine k_iconst X32 d_jdk_52_4_29 (w := (1 : Int32)) rfl (pc' := 30) rfl ?_
  refine k_ishl X32 d_jdk_52_4_30 (w := (Int32.ofNat (2 * i))) (own_shl1 (by omega)) (pc' := 31) rfl ?_
  refine k_istoreN X32 d_jdk_52_4_31 (Ls' := #[.val (.ref d), .val (.int (Int32.ofNat (2 * i))), .val (.int c0)]) rfl (pc' := 32) rfl ?_
  refine k_aloadN X32 d_jdk_52_4_32 rfl rfl (pc' := 33) rfl ?_
  refine k_iloadN X32 d_jdk_52_4_33 rfl (pc' := 34) rfl ?_
  refine k_iinc X32 d_jdk_52_4_34 rfl (w := (Int32.ofNat (2 * i + 1))) (own_succ (2 * i)) (Ls' := #[.val (.ref d), .val (.int (Int32.ofNat (2 * i + 1))), .val (.int c0)]) rfl (pc' := 37) rfl ?_
  refine k_iloadN X32 d_jdk_52_4_37 rfl (pc' := 38) rfl ?_
  refine k_getS X32 d_jdk_52_4_38 (host := "") (Or.inl (w_107 hw)) Via.refl (G_HI_BYTE_SHIFT.ext X32.old.2) (pc' := 41) rfl fun T33 X34 => ?_
  refine k_ishr X34 d_jdk_52_4_41 (w := c0) (own_shr0 c0) (pc' := 42) rfl ?_
  refine k_i2b X34 d_jdk_52_4_42 (w := (c0.toInt8.toInt32)) rfl (pc' := 43) rfl ?_
  have ge36 : n0 ≤ d := by omega
  refine k_bastore X34 (w := (c0.toInt8.toInt32)) (2 * i) d_jdk_52_4_43 q0 (own_nn (by omega)) l1 (own_clamp (by omega)) (by omega) (own_i2b _) (vs' := (vs.set (2 * i) (own_lo c0))) rfl trivial ge36 (pc' := 44) rfl fun T35 h35 L35 X35 K35 V35 => ?_
  have sz_h35 := K35.1
  have K0_h35 : Keep h0 h35 [d] := K0_h0.trans K35 (allS (Or.inl (List.mem_of_getElem? (i := 0) rfl)) all0)
  refine k_aloadN X35 d_jdk_52_4_44 rfl rfl (pc' := 45) rfl ?_
  refine k_iloadN X35 d_jdk_52_4_45 rfl (pc' := 46) rfl ?_
  refine k_iloadN X35 d_jdk_52_4_46 rfl (pc' := 47) rfl ?_
  refine k_getS X35 d_jdk_52_4_47 (host := "") (Or.inl (w_108 hw)) Via.refl (G_LO_BYTE_SHIFT.ext X35.old.2) (pc' := 50) rfl fun T37 X38 => ?_
  refine k_ishr X38 d_jdk_52_4_50 (w := (c0 >>> ((8 : Int32) &&& 31))) rfl (pc' := 51) rfl ?_
  refine k_i2b X38 d_jdk_52_4_51 (w := ((c0 >>> ((8 : Int32) &&& 31)).toInt8.toInt32)) rfl (pc' := 52) rfl ?_
  have ge40 : n0 ≤ d := by omega
  refine k_bastore X38 (w := ((c0 >>> ((8 : Int32) &&& 31)).toInt8.toInt32)) (2 * i + 1) d_jdk_52_4_52 V35 (own_nn (by omega)) l2 (own_clamp (by omega)) (by simp; omega) (own_i2b _) (vs' := ((vs.set (2 * i) (own_lo c0)).set (2 * i + 1) (own_hi c0))) rfl trivial ge40 (pc' := 53) rfl fun T39 h39 L39 X39 K39 V39 => ?_
  have sz_h39 := K39.1
  have K0_h39 : Keep h0 h39 [d] := K0_h35.trans K39 (allS (Or.inl (List.mem_of_getElem? (i := 0) rfl)) all0)
  exact k_retFV X39 d_jdk_52_4_53 rfl K0_h39 ⟨rfl, V39⟩ (by decide) (by decide)
set_option maxRecDepth 65536 in
set_option maxHeartbeats 40000000 in
theorem own_getC (l : Launch) (Z : State) (a0 : Array Value) (hw : ∀ d ∈ tables_1, d.before a0 Z = true) {zc : Int32} {fm : Value}  (G : Gl Z zc fm) (n0 : Nat) (h0 : Heap) (O0 : Old Z n0 h0) (d : Nat) (kd : ClassId) (zz : Int32) (cs : List Int32) (j : Nat) (jv : Int32) (hjv : jv = Int32.ofNat j) (hj : j < cs.length) (hzz : zz = Int32.ofNat (2 * cs.length)) (hb0 : 2 * cs.length < 2147483648) (hr : ¬ cs.getD j 0 < 0 ∧ ¬ 65535 < cs.getD j 0)  (q0 : Arv Z h0 d kd .byte zz (own_u16 cs) (.int (0 : Int32))) :
    MetF l [] Z n0 (⟨"java/lang/StringUTF16", "getChar", "([BI)C"⟩ : MethodName) jdk_52_method_5_code 2 (Option.some FieldType.char) ({ frames := 0, cells := 0, slots := 0, locals := 0 } : Room) #[(.ref d), (.int jv)] h0 [] (fun r h' => ∃ w, r = some w ∧ w = (.int (cs.getD j 0)) ∧ True) := by
  subst hjv
  refine metF (plainFor_of_name pn_0) O0 (Ls := #[.val (.ref d), .val (.int (Int32.ofNat j))]) (fun m => by first | rfl | (simp [entryFrame, mkF, argsToLocals, Value.category]; done)) ?_
  intro p e s m below meth c T0 X0
  have K0_h0 := Keep.refl h0 []
  have n0le := X0.n0le
  have ltq0 := own_n q0.lt
  obtain ⟨G_cs, G_zc, G_fm, isref_fm, G_assertionsDisabled, G_HI_BYTE_SHIFT, G_LO_BYTE_SHIFT⟩ := id G
  have l1 := own_lt (show 2 * j < 2 * cs.length by omega) hb0
  have l2 := own_lt (show 2 * j + 1 < 2 * cs.length by omega) hb0
  rw [← hzz] at l1 l2
  refine k_getS X0 d_jdk_52_5_0 (host := "") (Or.inl (w_106 hw)) Via.refl (G_assertionsDisabled.ext X0.old.2) (pc' := 3) rfl fun T41 X42 => ?_
  refine k_ifYes X42 d_jdk_52_5_3 (by decide) (pc' := 28) (by decide) (by decide) ?_
  refine k_iloadN X42 d_jdk_52_5_28 rfl (pc' := 29) rfl ?_
  refine k_iconst X42 d_jdk_52_5_29 (w := (1 : Int32)) rfl (pc' := 30) rfl ?_
  refine k_ishl X42 d_jdk_52_5_30 (w := (Int32.ofNat (2 * j))) (own_shl1 (by omega)) (pc' := 31) rfl ?_
  refine k_istoreN X42 d_jdk_52_5_31 (Ls' := #[.val (.ref d), .val (.int (Int32.ofNat (2 * j)))]) rfl (pc' := 32) rfl ?_
  refine k_aloadN X42 d_jdk_52_5_32 rfl rfl (pc' := 33) rfl ?_
  refine k_iloadN X42 d_jdk_52_5_33 rfl (pc' := 34) rfl ?_
  refine k_iinc X42 d_jdk_52_5_34 rfl (w := (Int32.ofNat (2 * j + 1))) (own_succ (2 * j)) (Ls' := #[.val (.ref d), .val (.int (Int32.ofNat (2 * j + 1)))]) rfl (pc' := 37) rfl ?_
  refine k_baload X42 d_jdk_52_5_37 q0 (own_nn (by omega)) l1 (v := (.int ((cs.getD j 0).toInt8.toInt32))) (by rw [own_clamp (by omega)]; exact own_u16lo cs j _ hj) (pc' := 38) rfl ?_
  refine k_sipush X42 d_jdk_52_5_38 (w := (255 : Int32)) rfl (pc' := 41) rfl ?_
  refine k_iand X42 d_jdk_52_5_41 (w := (((cs.getD j 0).toInt8.toInt32) &&& (255 : Int32))) rfl (pc' := 42) rfl ?_
  refine k_getS X42 d_jdk_52_5_42 (host := "") (Or.inl (w_107 hw)) Via.refl (G_HI_BYTE_SHIFT.ext X42.old.2) (pc' := 45) rfl fun T43 X44 => ?_
  refine k_ishl X44 d_jdk_52_5_45 (w := ((cs.getD j 0).toInt8.toInt32 &&& (255 : Int32))) (own_shl0 _) (pc' := 46) rfl ?_
  refine k_aloadN X44 d_jdk_52_5_46 rfl rfl (pc' := 47) rfl ?_
  refine k_iloadN X44 d_jdk_52_5_47 rfl (pc' := 48) rfl ?_
  refine k_baload X44 d_jdk_52_5_48 q0 (own_nn (by omega)) l2 (v := (.int ((cs.getD j 0 >>> ((8 : Int32) &&& 31)).toInt8.toInt32))) (by rw [own_clamp (by omega)]; exact own_u16hi cs j _ hj) (pc' := 49) rfl ?_
  refine k_sipush X44 d_jdk_52_5_49 (w := (255 : Int32)) rfl (pc' := 52) rfl ?_
  refine k_iand X44 d_jdk_52_5_52 (w := (((cs.getD j 0 >>> ((8 : Int32) &&& 31)).toInt8.toInt32) &&& (255 : Int32))) rfl (pc' := 53) rfl ?_
  refine k_getS X44 d_jdk_52_5_53 (host := "") (Or.inl (w_108 hw)) Via.refl (G_LO_BYTE_SHIFT.ext X44.old.2) (pc' := 56) rfl fun T45 X46 => ?_
  refine k_ishl X46 d_jdk_52_5_56 (w := ((((cs.getD j 0 >>> ((8 : Int32) &&& 31)).toInt8.toInt32) &&& (255 : Int32)) <<< ((8 : Int32) &&& 31))) rfl (pc' := 57) rfl ?_
  refine k_ior X46 d_jdk_52_5_57 (w := (((cs.getD j 0).toInt8.toInt32 &&& (255 : Int32)) ||| ((((cs.getD j 0 >>> ((8 : Int32) &&& 31)).toInt8.toInt32) &&& (255 : Int32)) <<< ((8 : Int32) &&& 31)))) rfl (pc' := 58) rfl ?_
  refine k_i2c X46 d_jdk_52_5_58 (w := (cs.getD j 0)) (own_join hr.1 hr.2) (pc' := 59) rfl ?_
  exact k_retFN X46 (w := (cs.getD j 0)) d_jdk_52_5_59 (t := .char) rfl (by simp) (own_i2c_id hr.1 hr.2) K0_h0 ⟨_, rfl, rfl, trivial⟩ (by decide) (by decide)
set_option maxRecDepth 65536 in
set_option maxHeartbeats 40000000 in
theorem own_nbl (l : Launch) (Z : State) (a0 : Array Value) (hw : ∀ d ∈ tables_1, d.before a0 Z = true) {zc : Int32} {fm : Value}  (G : Gl Z zc fm) (n0 : Nat) (h0 : Heap) (O0 : Old Z n0 h0) (n : Nat) (zv : Int32) (hzv : zv = Int32.ofNat n) (hn : n < 1073741823)   :
    MetF l [] Z n0 (⟨"java/lang/StringUTF16", "newBytesLength", "(I)I"⟩ : MethodName) jdk_52_method_3_code 1 (Option.some FieldType.int) ({ frames := 0, cells := 0, slots := 0, locals := 0 } : Room) #[(.int zv)] h0 [] (fun r h' => ∃ w, r = some w ∧ w = (.int (Int32.ofNat (2 * n))) ∧ True) := by
  subst hzv
  refine metF (plainFor_of_name pn_0) O0 (Ls := #[.val (.int (Int32.ofNat n))]) (fun m => by first | rfl | (simp [entryFrame, mkF, argsToLocals, Value.category]; done)) ?_
  intro p e s m below meth c T0 X0
  have K0_h0 := Keep.refl h0 []
  have n0le := X0.n0le
  obtain ⟨G_cs, G_zc, G_fm, isref_fm, G_assertionsDisabled, G_HI_BYTE_SHIFT, G_LO_BYTE_SHIFT⟩ := id G
  have h1 : Int32.ofNat n < (1073741823 : Int32) := own_lt hn (by decide)
  refine k_iloadN X0 d_jdk_52_3_0 rfl (pc' := 1) rfl ?_
  refine k_ifYes X0 d_jdk_52_3_1 ((if0 _ _).trans (flt (own_nn (by omega))).2.1) (pc' := 12) (by decide) (by decide) ?_
  refine k_iloadN X0 d_jdk_52_3_12 rfl (pc' := 13) rfl ?_
  refine k_ldcI X0 d_jdk_52_3_13 (w_102 hw) (pc' := 15) rfl ?_
  refine k_icmpYes X0 d_jdk_52_3_15 (tlt h1).1 (pc' := 55) (by decide) (by decide) ?_
  refine k_iloadN X0 d_jdk_52_3_55 rfl (pc' := 56) rfl ?_
  refine k_iconst X0 d_jdk_52_3_56 (w := (1 : Int32)) rfl (pc' := 57) rfl ?_
  refine k_ishl X0 d_jdk_52_3_57 (w := (Int32.ofNat (2 * n))) (own_shl1 (by omega)) (pc' := 58) rfl ?_
  exact k_retFI X0 d_jdk_52_3_58 rfl K0_h0 ⟨_, rfl, rfl, trivial⟩ (by decide) (by decide)
set_option maxRecDepth 65536 in
set_option maxHeartbeats 40000000 in
theorem own_nbf (l : Launch) (Z : State) (a0 : Array Value) (hw : ∀ d ∈ tables_1, d.before a0 Z = true) {zc : Int32} {fm : Value}  (G : Gl Z zc fm) (n0 : Nat) (h0 : Heap) (O0 : Old Z n0 h0) (n : Nat) (zv : Int32) (hzv : zv = Int32.ofNat n) (hn : n ≤ 4)   :
    MetF l [] Z n0 (⟨"java/lang/StringUTF16", "newBytesFor", "(I)[B"⟩ : MethodName) jdk_52_method_2_code 1 (Option.some (FieldType.array FieldType.byte)) ({ frames := 1, cells := 1, slots := 8, locals := 12 } : Room) #[(.int zv)] h0 [] (fun r h' => ∃ w, r = some w ∧ ∃ (t : Nat), ∃ (kt : ClassId), w = (.ref t) ∧ (Arv Z h' t kt .byte (Int32.ofNat (2 * n)) (List.replicate (2 * n) (.int (0 : Int32))) (.int (0 : Int32))) ∧ (h0.size ≤ t)) := by
  refine metF (plainFor_of_name pn_0) O0 (Ls := #[.val (.int zv)]) (fun m => by first | rfl | (simp [entryFrame, mkF, argsToLocals, Value.category]; done)) ?_
  intro p e s m below meth c T0 X0
  have K0_h0 := Keep.refl h0 []
  have n0le := X0.n0le
  obtain ⟨G_cs, G_zc, G_fm, isref_fm, G_assertionsDisabled, G_HI_BYTE_SHIFT, G_LO_BYTE_SHIFT⟩ := id G
  refine k_iloadN X0 d_jdk_52_2_0 rfl (pc' := 1) rfl ?_
  refine k_callSVF X0 (y := (⟨"java/lang/StringUTF16", "newBytesLength", "(I)I"⟩ : MethodName)) d_jdk_52_2_1 (w_99 hw) (w_100 hw) (w_78 hw) (w_101 hw) (by decide) (argsL := [(.int zv)]) (rest := []) (own_nbl l Z a0 hw G n0 h0 X0.old n zv hzv (by omega) ) rfl pd_3 rfl rfl (by decide) (W := 0) (Nat.le_of_eq rfl) (by decide) (by decide) (by decide) all0 (pc' := 4) rfl ?_
  rintro _ T47 h47 L47 X47 K47 ⟨rfl, -⟩
  have sz_h47 := K47.1
  have K0_h47 : Keep h0 h47 [] := K0_h0.trans K47 all0
  refine k_newP X47 d_jdk_52_2_4 (w_25 hw) (own_nn (by omega)) (cap := 8) (by rw [own_clamp (by omega)]; omega) (by decide) (by decide) (by decide) (pc' := 6) rfl fun T49 h49 b49 k49 g49 X49 K49 V49 S49 lt49 ge49 => ?_
  have sz_h49 := K49.1
  have K0_h49 : Keep h0 h49 [] := K0_h47.trans K49 all0
  have Vp : Arv Z h49 b49 k49 .byte (Int32.ofNat (2 * n)) (List.replicate (2 * n) (.int (0 : Int32))) (.int (0 : Int32)) := Arv.pad V49 (fun i => by simpa using pad_rep [] (.int (0 : Int32)) (2 * n) i)
  exact k_retFA X49 d_jdk_52_2_6 rfl rfl rfl rfl K0_h49 ⟨_, rfl, _, _, rfl, Vp, by omega⟩ (by decide) (by decide)
set_option maxRecDepth 65536 in
set_option maxHeartbeats 40000000 in
theorem own_toB (l : Launch) (Z : State) (a0 : Array Value) (hw : ∀ d ∈ tables_1, d.before a0 Z = true) {zc : Int32} {fm : Value}  (G : Gl Z zc fm) (n0 : Nat) (h0 : Heap) (O0 : Old Z n0 h0) (b : Nat) (kb : ClassId) (z : Int32) (cs : List Int32) (hz : z = Int32.ofNat cs.length) (hn : cs.length ≤ 4)  (q0 : Arv Z h0 b kb .char z (cs.map Value.int) (.int 0)) :
    MetF l [] Z n0 (⟨"java/lang/StringUTF16", "toBytes", "([CII)[B"⟩ : MethodName) jdk_52_method_14_code 5 (Option.some (FieldType.array FieldType.byte)) ({ frames := 2, cells := 1, slots := 8, locals := 24 } : Room) #[(.ref b), (.int (0 : Int32)), (.int z)] h0 [] (fun r h' => ∃ w, r = some w ∧ ∃ (t : Nat), ∃ (kt : ClassId), w = (.ref t) ∧ (Arv Z h' t kt .byte (Int32.ofNat (2 * cs.length)) (own_u16 cs) (.int (0 : Int32))) ∧ (h0.size ≤ t)) := by
  refine metF (plainFor_of_name pn_0) O0 (Ls := #[.val (.ref b), .val (.int (0 : Int32)), .val (.int z), .unset, .unset]) (fun m => by first | rfl | (simp [entryFrame, mkF, argsToLocals, Value.category]; done)) ?_
  intro p e s m below meth c T0 X0
  have K0_h0 := Keep.refl h0 []
  have n0le := X0.n0le
  have ltq0 := own_n q0.lt
  obtain ⟨G_cs, G_zc, G_fm, isref_fm, G_assertionsDisabled, G_HI_BYTE_SHIFT, G_LO_BYTE_SHIFT⟩ := id G
  refine k_iloadN X0 d_jdk_52_14_0 rfl (pc' := 1) rfl ?_
  refine k_callSVF X0 (y := (⟨"java/lang/StringUTF16", "newBytesFor", "(I)[B"⟩ : MethodName)) d_jdk_52_14_1 (w_96 hw) (w_97 hw) (w_78 hw) (w_98 hw) (by decide) (argsL := [(.int z)]) (rest := []) (own_nbf l Z a0 hw G n0 h0 X0.old (cs.length) z hz hn ) rfl pd_4 rfl rfl (by decide) (W := 0) (Nat.le_of_eq rfl) (by decide) (by decide) (by decide) all0 (pc' := 4) rfl ?_
  rintro _ T52 h52 L52 X52 K52 ⟨t_50, kt_51, rfl, q52_0, q52_1⟩
  have sz_h52 := K52.1
  have K0_h52 : Keep h0 h52 [] := K0_h0.trans K52 all0
  have lt52_0 := own_n q52_0.lt
  refine k_astoreN X52 d_jdk_52_14_4 rfl (Ls' := #[.val (.ref b), .val (.int (0 : Int32)), .val (.int z), .val (.ref t_50), .unset]) rfl (pc' := 5) rfl ?_
  refine k_iconst X52 d_jdk_52_14_5 (w := (0 : Int32)) rfl (pc' := 6) rfl ?_
  refine k_istore X52 d_jdk_52_14_6 (Ls' := #[.val (.ref b), .val (.int (0 : Int32)), .val (.int z), .val (.ref t_50), .val (.int (0 : Int32))]) rfl (pc' := 8) rfl ?_
  have loop : ∀ (n i : Nat) (T : State) (h : Heap) (L : List Loc) (cl sl : Nat), n = cs.length - i → i ≤ cs.length → cl = 1 → sl = 8 → WP p l e ({ frames := 2, cells := 1, slots := 8, locals := 24 } : Room) s m #[(.ref b), (.int (0 : Int32)), (.int z)] below meth c Z "java/lang/StringUTF16" "toBytes" jdk_52_method_14_code 5 (Option.some (FieldType.array FieldType.byte)) n0 (fun _ => True) (fun _ _ => True) T h L cl sl → Keep h0 h [] → Arv Z h b kb .char z (cs.map Value.int) (.int 0) → Arv Z h t_50 kt_51 .byte (Int32.ofNat (2 * cs.length)) (own_u16 (cs.take i) ++ List.replicate (2 * (cs.length - i)) (.int (0 : Int32))) (.int (0 : Int32)) → Run p.tables e below (PF s below n0 h0 [] (fun r h' => ∃ w, r = some w ∧ ∃ (t : Nat), ∃ (kt : ClassId), w = (.ref t) ∧ (Arv Z h' t kt .byte (Int32.ofNat (2 * cs.length)) (own_u16 cs) (.int (0 : Int32))) ∧ (h0.size ≤ t)) ({ frames := 2, cells := 1, slots := 8, locals := 24 } : Room).cells ({ frames := 2, cells := 1, slots := 8, locals := 24 } : Room).slots) T (mkF m 8 #[.val (.ref b), .val (.int (Int32.ofNat i)), .val (.int z), .val (.ref t_50), .val (.int (Int32.ofNat i))] []) := by
    intro n
    induction n with
    | zero =>
      intro i T h L cl sl hni hij hcl hsl X K Vb Vd
      subst hcl hsl
      have hi : i = cs.length := by omega
      subst hi
      have hnl : ¬ (Int32.ofNat cs.length < z) := by rw [← hz]; exact Int32.lt_irrefl
      have lb := own_n Vb.lt
      have ld := own_n Vd.lt
      have lh0 := K.1
      have lb0 := own_n q0.lt
      have nle := X.n0le
      refine k_iload X d_jdk_52_14_8 rfl (pc' := 10) rfl ?_
      refine k_iloadN X d_jdk_52_14_10 rfl (pc' := 11) rfl ?_
      refine k_icmpYes X d_jdk_52_14_11 (flt hnl).2.1 (pc' := 32) (by decide) (by decide) ?_
      refine k_aloadN X d_jdk_52_14_32 rfl rfl (pc' := 33) rfl ?_
      have Ve : Arv Z h t_50 kt_51 .byte (Int32.ofNat (2 * cs.length)) (own_u16 cs) (.int (0 : Int32)) := by simpa using Vd
      exact k_retFA X d_jdk_52_14_33 rfl rfl rfl rfl K ⟨_, rfl, _, _, rfl, Ve, by omega⟩ (by decide) (by decide)
    | succ n ih =>
      intro i T h L cl sl hni hij hcl hsl X K Vb Vd
      subst hcl hsl
      have hi : i < cs.length := by omega
      have hlt := own_lt hi (by omega)
      rw [← hz] at hlt
      have lb := own_n Vb.lt
      have ld := own_n Vd.lt
      have lh0 := K.1
      have lb0 := own_n q0.lt
      have nle := X.n0le
      refine k_iload X d_jdk_52_14_8 rfl (pc' := 10) rfl ?_
      refine k_iloadN X d_jdk_52_14_10 rfl (pc' := 11) rfl ?_
      refine k_icmpNo X d_jdk_52_14_11 (tlt hlt).2.1 (pc' := 14) rfl ?_
      refine k_aloadN X d_jdk_52_14_14 rfl rfl (pc' := 15) rfl ?_
      refine k_iload X d_jdk_52_14_15 rfl (pc' := 17) rfl ?_
      refine k_aloadN X d_jdk_52_14_17 rfl rfl (pc' := 18) rfl ?_
      refine k_iloadN X d_jdk_52_14_18 rfl (pc' := 19) rfl ?_
      refine k_caload X d_jdk_52_14_19 Vb (own_nn (by omega)) hlt (v := (.int (cs.getD i 0))) (own_getc' cs (by omega)) (pc' := 20) rfl ?_
      have ge54 : n0 ≤ t_50 := by omega
      refine k_callSNF X (y := (⟨"java/lang/StringUTF16", "putChar", "([BII)V"⟩ : MethodName)) d_jdk_52_14_20 (w_103 hw) (w_104 hw) (w_78 hw) (w_105 hw) (by decide) (argsL := [(.ref t_50), (.int (Int32.ofNat i)), (.int (cs.getD i 0))]) (rest := []) (own_putC l Z a0 hw G n0 h X.old t_50 kt_51 (Int32.ofNat (2 * cs.length)) (own_u16 (cs.take i) ++ List.replicate (2 * (cs.length - i)) (.int (0 : Int32))) i (cs.getD i 0) (by rw [own_u16l cs i hij]; omega) (by rw [own_u16l cs i hij]) (by rw [own_u16l cs i hij]; omega) (by omega) Vd) rfl pd_5 rfl rfl (by decide) (W := 0) (Nat.le_of_eq rfl) (by decide) (by decide) (by decide) (allS ⟨trivial, ge54⟩ all0) (pc' := 23) rfl ?_
      rintro T55 h55 L55 X55 K55 q55_0
      have sz_h55 := K55.1
      have K0_h55 : Keep h0 h55 [] := K.trans K55 (allS (Or.inr (by omega)) all0)
      have lt55_0 := own_n q55_0.lt
      refine k_iinc X55 d_jdk_52_14_23 rfl (w := (Int32.ofNat (i + 1))) (own_succ i) (Ls' := #[.val (.ref b), .val (.int (Int32.ofNat (i + 1))), .val (.int z), .val (.ref t_50), .val (.int (Int32.ofNat i))]) rfl (pc' := 26) rfl ?_
      refine k_iinc X55 d_jdk_52_14_26 rfl (w := (Int32.ofNat (i + 1))) (own_succ i) (Ls' := #[.val (.ref b), .val (.int (Int32.ofNat (i + 1))), .val (.int z), .val (.ref t_50), .val (.int (Int32.ofNat (i + 1)))]) rfl (pc' := 29) rfl ?_
      refine k_goto X55 d_jdk_52_14_29 (pc' := 8) (by decide) (by decide) ?_
      have c56 := (Vb.keep K55 (ninS (own_ne (by omega) : b ≠ t_50) nin0))
      rw [own_u16turn cs i hi] at q55_0
      exact ih (i + 1) _ _ _ _ _ (by omega) (by omega) rfl rfl X55 K0_h55 c56 q55_0
  have c57 := (q0.keep K52 nin0)
  exact loop _ 0 _ _ _ _ _ rfl (by omega) rfl rfl X52 K0_h52 c57 (by simpa [own_u16] using q52_0)
set_option maxRecDepth 65536 in
set_option maxHeartbeats 40000000 in
theorem own_cmp3U (l : Launch) (Z : State) (a0 : Array Value) (hw : ∀ d ∈ tables_1, d.before a0 Z = true) {zc : Int32} {fm : Value}  (G : Gl Z zc fm) (n0 : Nat) (h0 : Heap) (O0 : Old Z n0 h0) (b : Nat) (kb : ClassId) (z : Int32) (cs : List Int32) (hz : z = Int32.ofNat cs.length) (hn : cs.length ≤ 4) (hj : own_fst cs < cs.length)  (q0 : Arv Z h0 b kb .char z (cs.map Value.int) (.int 0)) :
    MetF l [] Z n0 (⟨"java/lang/StringUTF16", "compress", "([CII)[B"⟩ : MethodName) jdk_52_method_16_code 6 (Option.some (FieldType.array FieldType.byte)) ({ frames := 3, cells := 2, slots := 12, locals := 40 } : Room) #[(.ref b), (.int (0 : Int32)), (.int z)] h0 [] (fun r h' => ∃ w, r = some w ∧ ∃ (t : Nat), ∃ (kt : ClassId), w = (.ref t) ∧ (Arv Z h' t kt .byte (Int32.ofNat (2 * cs.length)) (own_u16 cs) (.int (0 : Int32))) ∧ (h0.size ≤ t)) := by
  refine metF (plainFor_of_name pn_0) O0 (Ls := #[.val (.ref b), .val (.int (0 : Int32)), .val (.int z), .unset, .unset, .unset]) (fun m => by first | rfl | (simp [entryFrame, mkF, argsToLocals, Value.category]; done)) ?_
  intro p e s m below meth c T0 X0
  have K0_h0 := Keep.refl h0 []
  have n0le := X0.n0le
  have ltq0 := own_n q0.lt
  obtain ⟨G_cs, G_zc, G_fm, isref_fm, G_assertionsDisabled, G_HI_BYTE_SHIFT, G_LO_BYTE_SHIFT⟩ := id G
  have hnz : ¬ z < 0 := by rw [hz]; exact own_nn (by omega)
  have hcl : z.toNatClampNeg = cs.length := by rw [hz]; exact own_clamp (by omega)
  have hrg := own_rng q0 hz (by omega) (own_fst cs) hj
  refine k_iloadN X0 d_jdk_52_16_0 rfl (pc' := 1) rfl ?_
  refine k_newP X0 d_jdk_52_16_1 (w_25 hw) hnz (cap := 4) (by omega) (by decide) (by decide) (by decide) (pc' := 3) rfl fun T58 h58 b58 k58 g58 X58 K58 V58 S58 lt58 ge58 => ?_
  have sz_h58 := K58.1
  have K0_h58 : Keep h0 h58 [] := K0_h0.trans K58 all0
  have Vp : Arv Z h58 b58 k58 .byte z (List.replicate cs.length (.int (0 : Int32))) (.int (0 : Int32)) := Arv.pad V58 (fun i => by simpa using pad_rep [] (.int (0 : Int32)) cs.length i)
  refine k_astoreN X58 d_jdk_52_16_3 rfl (Ls' := #[.val (.ref b), .val (.int (0 : Int32)), .val (.int z), .val (.ref b58), .unset, .unset]) rfl (pc' := 4) rfl ?_
  refine k_aloadN X58 d_jdk_52_16_4 rfl rfl (pc' := 5) rfl ?_
  refine k_iloadN X58 d_jdk_52_16_5 rfl (pc' := 6) rfl ?_
  refine k_aloadN X58 d_jdk_52_16_6 rfl rfl (pc' := 7) rfl ?_
  refine k_iconst X58 d_jdk_52_16_7 (w := (0 : Int32)) rfl (pc' := 8) rfl ?_
  refine k_iloadN X58 d_jdk_52_16_8 rfl (pc' := 9) rfl ?_
  have c59 := (q0.keep K58 nin0)
  have ge60 : n0 ≤ b58 := by omega
  refine k_callSVF X58 (y := (⟨"java/lang/StringUTF16", "compress", "([CI[BII)I"⟩ : MethodName)) d_jdk_52_16_9 (w_80 hw) (w_81 hw) (w_78 hw) (w_82 hw) (by decide) (argsL := [(.ref b), (.int (0 : Int32)), (.ref b58), (.int (0 : Int32)), (.int z)]) (rest := []) (own_cmp5 l Z a0 hw G n0 h58 X58.old b b58 kb k58 z cs (List.replicate cs.length (.int (0 : Int32))) (by omega) hz (by omega) (by simp) (by omega) c59 Vp) rfl pd_0 rfl rfl (by decide) (W := 0) (Nat.le_of_eq rfl) (by decide) (by decide) (by decide) (allS ⟨trivial, ge60⟩ all0) (pc' := 12) rfl ?_
  rintro _ T61 h61 L61 X61 K61 ⟨rfl, q61_0⟩
  have sz_h61 := K61.1
  have K0_h61 : Keep h0 h61 [] := K0_h58.trans K61 (allS (Or.inr (by omega)) all0)
  have lt61_0 := own_n q61_0.lt
  refine k_istore X61 d_jdk_52_16_12 (Ls' := #[.val (.ref b), .val (.int (0 : Int32)), .val (.int z), .val (.ref b58), .val (.int (Int32.ofNat (own_fst cs))), .unset]) rfl (pc' := 14) rfl ?_
  refine k_iload X61 d_jdk_52_16_14 rfl (pc' := 16) rfl ?_
  refine k_iloadN X61 d_jdk_52_16_16 rfl (pc' := 17) rfl ?_
  have hz2 : ¬ (Int32.ofNat (own_fst cs) = z) := by rw [hz]; intro q; have := own_lt hj (by omega); rw [q] at this; exact Int32.lt_irrefl this
  refine k_icmpNo X61 d_jdk_52_16_17 (feq hz2).1 (pc' := 20) rfl ?_
  refine k_aloadN X61 d_jdk_52_16_20 rfl rfl (pc' := 21) rfl ?_
  refine k_iloadN X61 d_jdk_52_16_21 rfl (pc' := 22) rfl ?_
  refine k_iloadN X61 d_jdk_52_16_22 rfl (pc' := 23) rfl ?_
  have c63 := (c59.keep K61 (ninS (own_ne (by omega) : b ≠ b58) nin0))
  refine k_callSVF X61 (y := (⟨"java/lang/StringUTF16", "toBytes", "([CII)[B"⟩ : MethodName)) d_jdk_52_16_23 (w_93 hw) (w_94 hw) (w_78 hw) (w_95 hw) (by decide) (argsL := [(.ref b), (.int (0 : Int32)), (.int z)]) (rest := []) (own_toB l Z a0 hw G n0 h61 X61.old b kb z cs hz hn c63) rfl pd_1 rfl rfl (by decide) (W := 0) (Nat.le_of_eq rfl) (by decide) (by decide) (by decide) all0 (pc' := 26) rfl ?_
  rintro _ T66 h66 L66 X66 K66 ⟨t_64, kt_65, rfl, q66_0, q66_1⟩
  have sz_h66 := K66.1
  have K0_h66 : Keep h0 h66 [] := K0_h61.trans K66 all0
  have lt66_0 := own_n q66_0.lt
  refine k_astore X66 d_jdk_52_16_26 rfl (Ls' := #[.val (.ref b), .val (.int (0 : Int32)), .val (.int z), .val (.ref b58), .val (.int (Int32.ofNat (own_fst cs))), .val (.ref t_64)]) rfl (pc' := 28) rfl ?_
  refine k_aload X66 d_jdk_52_16_28 rfl rfl (pc' := 30) rfl ?_
  refine k_iload X66 d_jdk_52_16_30 rfl (pc' := 32) rfl ?_
  refine k_callSVF X66 (y := (⟨"java/lang/StringUTF16", "getChar", "([BI)C"⟩ : MethodName)) d_jdk_52_16_32 (w_109 hw) (w_110 hw) (w_78 hw) (w_111 hw) (by decide) (argsL := [(.ref t_64), (.int (Int32.ofNat (own_fst cs)))]) (rest := []) (own_getC l Z a0 hw G n0 h66 X66.old t_64 kt_65 (Int32.ofNat (2 * cs.length)) cs (own_fst cs) (Int32.ofNat (own_fst cs)) rfl hj rfl (by omega) hrg q66_0) rfl pd_6 rfl rfl (by decide) (W := 0) (Nat.le_of_eq rfl) (by decide) (by decide) (by decide) all0 (pc' := 35) rfl ?_
  rintro _ T68 h68 L68 X68 K68 ⟨rfl, -⟩
  have sz_h68 := K68.1
  have K0_h68 : Keep h0 h68 [] := K0_h66.trans K68 all0
  refine k_sipush X68 d_jdk_52_16_35 (w := (255 : Int32)) rfl (pc' := 38) rfl ?_
  refine k_icmpYes X68 d_jdk_52_16_38 (tlt (own_fst_hi cs hj)).2.2.1 (pc' := 54) (by decide) (by decide) ?_
  refine k_aload X68 d_jdk_52_16_54 rfl rfl (pc' := 56) rfl ?_
  have c70 := (q66_0.keep K68 nin0)
  exact k_retFA X68 d_jdk_52_16_56 rfl rfl rfl rfl K0_h68 ⟨_, rfl, _, _, rfl, c70, by omega⟩ (by decide) (by decide)
set_option maxRecDepth 65536 in
set_option maxHeartbeats 40000000 in
theorem own_codU (l : Launch) (Z : State) (a0 : Array Value) (hw : ∀ d ∈ tables_1, d.before a0 Z = true) {zc : Int32} {fm : Value}  (G : Gl Z zc fm) (n0 : Nat) (h0 : Heap) (O0 : Old Z n0 h0) (d : Nat) (k : ClassId) (z : Int32) (cs : List Int32) (bs : List Value) (dv : Value) (hz : z = Int32.ofNat cs.length) (h1 : 0 < cs.length) (hn : cs.length < 1073741824)  (q0 : Arv Z h0 d k .byte (Int32.ofNat (2 * cs.length)) bs dv) :
    MetF l [] Z n0 (⟨"java/lang/StringUTF16", "coderFromArrayLen", "([BI)B"⟩ : MethodName) jdk_52_method_15_code 2 (Option.some FieldType.byte) ({ frames := 0, cells := 0, slots := 0, locals := 0 } : Room) #[(.ref d), (.int z)] h0 [] (fun r h' => ∃ w, r = some w ∧ w = (.int (1 : Int32)) ∧ True) := by
  subst hz
  refine metF (plainFor_of_name pn_0) O0 (Ls := #[.val (.ref d), .val (.int (Int32.ofNat cs.length))]) (fun m => by first | rfl | (simp [entryFrame, mkF, argsToLocals, Value.category]; done)) ?_
  intro p e s m below meth c T0 X0
  have K0_h0 := Keep.refl h0 []
  have n0le := X0.n0le
  have ltq0 := own_n q0.lt
  obtain ⟨G_cs, G_zc, G_fm, isref_fm, G_assertionsDisabled, G_HI_BYTE_SHIFT, G_LO_BYTE_SHIFT⟩ := id G
  refine k_iloadN X0 d_jdk_52_15_0 rfl (pc' := 1) rfl ?_
  refine k_aloadN X0 d_jdk_52_15_1 rfl rfl (pc' := 2) rfl ?_
  refine k_arlen X0 d_jdk_52_15_2 q0 (pc' := 3) rfl ?_
  refine k_isub X0 d_jdk_52_15_3 (w := ((Int32.ofNat cs.length) - (Int32.ofNat (2 * cs.length)))) rfl (pc' := 4) rfl ?_
  refine k_bipush X0 d_jdk_52_15_4 (w := (31 : Int32)) rfl (pc' := 6) rfl ?_
  refine k_iushr X0 d_jdk_52_15_6 (w := (1 : Int32)) (own_neg31 h1 hn) (pc' := 7) rfl ?_
  refine k_i2b X0 d_jdk_52_15_7 (w := (1 : Int32)) (by decide) (pc' := 8) rfl ?_
  exact k_retFN X0 (w := (1 : Int32)) d_jdk_52_15_8 (t := .byte) rfl (by simp) rfl K0_h0 ⟨_, rfl, rfl, trivial⟩ (by decide) (by decide)
set_option maxRecDepth 65536 in
set_option maxHeartbeats 40000000 in
theorem own_init4U (l : Launch) (Z : State) (a0 : Array Value) (hw : ∀ d ∈ tables_1, d.before a0 Z = true) {zc : Int32} {fm : Value}  (G : Gl Z zc fm) (n0 : Nat) (h0 : Heap) (O0 : Old Z n0 h0) (a : Nat) (b : Nat) (kb : ClassId) (z : Int32) (cs : List Int32) (hz : z = Int32.ofNat cs.length) (h1 : 0 < cs.length) (hn : cs.length ≤ 4) (hj : own_fst cs < cs.length) (gw0 : n0 ≤ a) (q0 : Exa Z h0 a "java/lang/String") (q1 : Fld Z h0 a "java/lang/String" "value" "[B" .null) (q2 : Fld Z h0 a "java/lang/String" "coder" "B" (.int (0 : Int32))) (q3 : Arv Z h0 b kb .char z (cs.map Value.int) (.int 0)) :
    MetF l [] Z n0 (⟨"java/lang/String", "<init>", "([CIILjava/lang/Void;)V"⟩ : MethodName) jdk_42_method_149_code 6 (Option.none : Option FieldType) ({ frames := 4, cells := 2, slots := 12, locals := 57 } : Room) #[(.ref a), (.ref b), (.int (0 : Int32)), (.int z), .null] h0 [a] (fun r h' => r = none ∧ ∃ (t : Nat), ∃ (kt : ClassId), (Exa Z h' a "java/lang/String") ∧ (Fld Z h' a "java/lang/String" "coder" "B" (.int (1 : Int32))) ∧ (Fld Z h' a "java/lang/String" "value" "[B" (.ref t)) ∧ (Arv Z h' t kt .byte (Int32.ofNat (2 * cs.length)) (own_u16 cs) (.int (0 : Int32))) ∧ (h0.size ≤ t)) := by
  refine metF (plainFor_of_name pn_1) O0 (Ls := #[.val (.ref a), .val (.ref b), .val (.int (0 : Int32)), .val (.int z), .val .null, .unset]) (fun m => by first | rfl | (simp [entryFrame, mkF, argsToLocals, Value.category]; done)) ?_
  intro p e s m below meth c T0 X0
  have K0_h0 := Keep.refl h0 [a]
  have n0le := X0.n0le
  have ltq0 := own_n q0.lt
  have ltq1 := own_n q1.lt
  have ltq2 := own_n q2.lt
  have ltq3 := own_n q3.lt
  obtain ⟨G_cs, G_zc, G_fm, isref_fm, G_assertionsDisabled, G_HI_BYTE_SHIFT, G_LO_BYTE_SHIFT⟩ := id G
  have hnz0 : ¬ z = 0 := by rw [hz]; exact own_nz h1 (by omega)
  refine k_aloadN X0 d_jdk_42_149_0 rfl rfl (pc' := 1) rfl ?_
  refine k_initO X0 d_jdk_42_149_1 (w_21 hw) (w_22 hw) (w_23 hw) rfl (by decide) (W := 0) (Nat.le_of_eq rfl) (by decide) (pc' := 4) rfl fun T71 X72 => ?_
  refine k_iloadN X72 d_jdk_42_149_4 rfl (pc' := 5) rfl ?_
  refine k_ifYes X72 d_jdk_42_149_5 ((if0 _ _).trans (feq hnz0).2) (pc' := 27) (by decide) (by decide) ?_
  refine k_getS X72 d_jdk_42_149_27 (host := "") (Or.inl (w_49 hw)) Via.refl (G_cs.ext X72.old.2) (pc' := 30) rfl fun T73 X74 => ?_
  refine k_ifNo X74 d_jdk_42_149_30 ((if0 _ _).trans (feq G_zc).1) (pc' := 33) rfl ?_
  refine k_aloadN X74 d_jdk_42_149_33 rfl rfl (pc' := 34) rfl ?_
  refine k_iloadN X74 d_jdk_42_149_34 rfl (pc' := 35) rfl ?_
  refine k_iloadN X74 d_jdk_42_149_35 rfl (pc' := 36) rfl ?_
  refine k_callSVF X74 (y := (⟨"java/lang/StringUTF16", "compress", "([CII)[B"⟩ : MethodName)) d_jdk_42_149_36 (w_76 hw) (w_77 hw) (w_78 hw) (w_79 hw) (by decide) (argsL := [(.ref b), (.int (0 : Int32)), (.int z)]) (rest := []) (own_cmp3U l Z a0 hw G n0 h0 X74.old b kb z cs hz (by omega) hj q3) rfl pd_1 rfl rfl (by decide) (W := 0) (Nat.le_of_eq rfl) (by decide) (by decide) (by decide) all0 (pc' := 39) rfl ?_
  rintro _ T77 h77 L77 X77 K77 ⟨t_75, kt_76, rfl, q77_0, q77_1⟩
  have sz_h77 := K77.1
  have K0_h77 : Keep h0 h77 [a] := K0_h0.trans K77 all0
  have lt77_0 := own_n q77_0.lt
  refine k_astore X77 d_jdk_42_149_39 rfl (Ls' := #[.val (.ref a), .val (.ref b), .val (.int (0 : Int32)), .val (.int z), .val .null, .val (.ref t_75)]) rfl (pc' := 41) rfl ?_
  refine k_aloadN X77 d_jdk_42_149_41 rfl rfl (pc' := 42) rfl ?_
  refine k_aload X77 d_jdk_42_149_42 rfl rfl (pc' := 44) rfl ?_
  refine k_iloadN X77 d_jdk_42_149_44 rfl (pc' := 45) rfl ?_
  refine k_callSVF X77 (y := (⟨"java/lang/StringUTF16", "coderFromArrayLen", "([BI)B"⟩ : MethodName)) d_jdk_42_149_45 (w_83 hw) (w_84 hw) (w_78 hw) (w_85 hw) (by decide) (argsL := [(.ref t_75), (.int z)]) (rest := [(.ref a)]) (own_codU l Z a0 hw G n0 h77 X77.old t_75 kt_76 z cs (own_u16 cs) (.int (0 : Int32)) hz h1 (by omega) q77_0) rfl pd_2 rfl rfl (by decide) (W := 1) (Nat.le_of_eq rfl) (by decide) (by decide) (by decide) all0 (pc' := 48) rfl ?_
  rintro _ T79 h79 L79 X79 K79 ⟨rfl, -⟩
  have sz_h79 := K79.1
  have K0_h79 : Keep h0 h79 [a] := K0_h77.trans K79 all0
  have c81 := ((q2.keep K77 nin0).keep K79 nin0)
  have c82 := ((q0.keep K77).keep K79)
  have ge84 : n0 ≤ a := by omega
  refine k_putF X79 d_jdk_42_149_48 (host := "") (Or.inl (w_31 hw)) Via.refl c81 c82 (Or.inr ⟨(w_27 hw), rfl, X79.hnm⟩) (w_11 hw) (ty := .byte) (by decide) rfl rfl trivial ge84 (pc' := 51) rfl fun T83 h83 L83 X83 W83 K83 => ?_
  have sz_h83 := K83.1
  have K0_h83 : Keep h0 h83 [a] := K0_h79.trans K83 (allS (Or.inl (List.mem_of_getElem? (i := 0) rfl)) all0)
  have F83 := c81.same W83
  refine k_aloadN X83 d_jdk_42_149_51 rfl rfl (pc' := 52) rfl ?_
  refine k_aload X83 d_jdk_42_149_52 rfl rfl (pc' := 54) rfl ?_
  have c85 := (((q1.keep K77 nin0).keep K79 nin0).other W83 (Or.inr (slot_ne (Or.inr (w_26 hw)) (Or.inr (w_27 hw)) (by decide) (t := (.array .byte)) (t' := .byte) (by decide) (by decide))))
  have c86 := (c82.keep K83)
  have ge88 : n0 ≤ a := by omega
  refine k_putF X83 d_jdk_42_149_54 (host := "") (Or.inl (w_30 hw)) Via.refl c85 c86 (Or.inr ⟨(w_26 hw), rfl, X83.hnm⟩) (w_11 hw) (ty := (.array .byte)) (by decide) rfl rfl trivial ge88 (pc' := 57) rfl fun T87 h87 L87 X87 W87 K87 => ?_
  have sz_h87 := K87.1
  have K0_h87 : Keep h0 h87 [a] := K0_h83.trans K87 (allS (Or.inl (List.mem_of_getElem? (i := 0) rfl)) all0)
  have F87 := c85.same W87
  have c89 := (c86.keep K87)
  have c90 := (F83.other W87 (Or.inr (slot_ne (Or.inr (w_27 hw)) (Or.inr (w_26 hw)) (by decide) (t := .byte) (t' := (.array .byte)) (by decide) (by decide))))
  have c91 := (((q77_0.keep K79 nin0).keep K83 (ninS (own_ne (by omega) : t_75 ≠ a) nin0)).keep K87 (ninS (own_ne (by omega) : t_75 ≠ a) nin0))
  exact k_retFV X87 d_jdk_42_149_57 rfl K0_h87 ⟨rfl, _, _, c89, c90, F87, c91, by omega⟩ (by decide) (by decide)
set_option maxRecDepth 65536 in
set_option maxHeartbeats 40000000 in
theorem own_initU (l : Launch) (Z : State) (a0 : Array Value) (hw : ∀ d ∈ tables_1, d.before a0 Z = true) {zc : Int32} {fm : Value}  (G : Gl Z zc fm) (n0 : Nat) (h0 : Heap) (O0 : Old Z n0 h0) (a : Nat) (b : Nat) (kb : ClassId) (z : Int32) (vs : List Value) (cs : List Int32) (hvs : vs = cs.map Value.int) (hz : z = Int32.ofNat cs.length) (h1 : 0 < cs.length) (hn : cs.length ≤ 4) (hj : own_fst cs < cs.length) (gw0 : n0 ≤ a) (q0 : Exa Z h0 a "java/lang/String") (q1 : Fld Z h0 a "java/lang/String" "value" "[B" .null) (q2 : Fld Z h0 a "java/lang/String" "coder" "B" (.int (0 : Int32))) (q3 : Arv Z h0 b kb .char z vs (.int (0 : Int32))) :
    MetF l [] Z n0 (⟨"java/lang/String", "<init>", "([C)V"⟩ : MethodName) jdk_42_method_3_code 2 (Option.none : Option FieldType) ({ frames := 5, cells := 2, slots := 12, locals := 74 } : Room) #[(.ref a), (.ref b)] h0 [a] (fun r h' => r = none ∧ ∃ (t : Nat), ∃ (kt : ClassId), (Exa Z h' a "java/lang/String") ∧ (Fld Z h' a "java/lang/String" "coder" "B" (.int (1 : Int32))) ∧ (Fld Z h' a "java/lang/String" "value" "[B" (.ref t)) ∧ (Arv Z h' t kt .byte (Int32.ofNat (2 * cs.length)) (own_u16 cs) (.int (0 : Int32))) ∧ (h0.size ≤ t)) := by
  subst hvs
  refine metF (plainFor_of_name pn_1) O0 (Ls := #[.val (.ref a), .val (.ref b)]) (fun m => by first | rfl | (simp [entryFrame, mkF, argsToLocals, Value.category]; done)) ?_
  intro p e s m below meth c T0 X0
  have K0_h0 := Keep.refl h0 [a]
  have n0le := X0.n0le
  have ltq0 := own_n q0.lt
  have ltq1 := own_n q1.lt
  have ltq2 := own_n q2.lt
  have ltq3 := own_n q3.lt
  obtain ⟨G_cs, G_zc, G_fm, isref_fm, G_assertionsDisabled, G_HI_BYTE_SHIFT, G_LO_BYTE_SHIFT⟩ := id G
  refine k_aloadN X0 d_jdk_42_3_0 rfl rfl (pc' := 1) rfl ?_
  refine k_aloadN X0 d_jdk_42_3_1 rfl rfl (pc' := 2) rfl ?_
  refine k_iconst X0 d_jdk_42_3_2 (w := (0 : Int32)) rfl (pc' := 3) rfl ?_
  refine k_aloadN X0 d_jdk_42_3_3 rfl rfl (pc' := 4) rfl ?_
  refine k_arlen X0 d_jdk_42_3_4 q3 (pc' := 5) rfl ?_
  refine k_aconstNull X0 d_jdk_42_3_5 (pc' := 6) rfl ?_
  have ge94 : n0 ≤ a := by omega
  refine k_callPNF X0 (y := (⟨"java/lang/String", "<init>", "([CIILjava/lang/Void;)V"⟩ : MethodName)) d_jdk_42_3_6 (w_17 hw) (w_18 hw) (w_12 hw) (w_20 hw) (by decide) rfl rfl (argsL := [(.ref b), (.int (0 : Int32)), (.int z), .null]) (rest := []) (own_init4U l Z a0 hw G n0 h0 X0.old a b kb z cs hz h1 hn hj (by omega) q0 q1 q2 q3) rfl pd_7 rfl rfl (by decide) (W := 0) (Nat.le_of_eq rfl) (by decide) (by decide) (by decide) (allS ⟨trivial, ge94⟩ all0) (pc' := 9) rfl ?_
  rintro T95 h95 L95 X95 K95 ⟨t_92, kt_93, q95_0, q95_1, q95_2, q95_3, q95_4⟩
  have sz_h95 := K95.1
  have K0_h95 : Keep h0 h95 [a] := K0_h0.trans K95 (allS (Or.inl (List.mem_of_getElem? (i := 0) rfl)) all0)
  have lt95_0 := own_n q95_0.lt
  have lt95_1 := own_n q95_1.lt
  have lt95_2 := own_n q95_2.lt
  have lt95_3 := own_n q95_3.lt
  exact k_retFV X95 d_jdk_42_3_9 rfl K0_h95 ⟨rfl, _, _, q95_0, q95_1, q95_2, q95_3, by omega⟩ (by decide) (by decide)
set_option maxRecDepth 65536 in
set_option maxHeartbeats 40000000 in
theorem own_initL (l : Launch) (Z : State) (a0 : Array Value) (hw : ∀ d ∈ tables_1, d.before a0 Z = true) {zc : Int32} {fm : Value}  (G : Gl Z zc fm) (n0 : Nat) (h0 : Heap) (O0 : Old Z n0 h0) (a : Nat) (b : Nat) (kb : ClassId) (z : Int32) (vs : List Value) (cs : List Int32) (hvs : vs = cs.map Value.int) (hz : z = Int32.ofNat cs.length) (h1 : 0 < cs.length) (hn : cs.length ≤ 4) (hall : ∀ c ∈ cs, ¬ 255 < c) (gw0 : n0 ≤ a) (q0 : Exa Z h0 a "java/lang/String") (q1 : Fld Z h0 a "java/lang/String" "value" "[B" .null) (q2 : Fld Z h0 a "java/lang/String" "coder" "B" (.int (0 : Int32))) (q3 : Arv Z h0 b kb .char z vs (.int (0 : Int32))) :
    MetF l [] Z n0 (⟨"java/lang/String", "<init>", "([C)V"⟩ : MethodName) jdk_42_method_3_code 2 (Option.none : Option FieldType) ({ frames := 5, cells := 2, slots := 12, locals := 74 } : Room) #[(.ref a), (.ref b)] h0 [a] (fun r h' => r = none ∧ ∃ (t : Nat), ∃ (kt : ClassId), (Exa Z h' a "java/lang/String") ∧ (Fld Z h' a "java/lang/String" "coder" "B" (.int (0 : Int32))) ∧ (Fld Z h' a "java/lang/String" "value" "[B" (.ref t)) ∧ (Arv Z h' t kt .byte z (own_lat cs) (.int (0 : Int32))) ∧ (h0.size ≤ t)) := by
  subst hvs
  refine metF (plainFor_of_name pn_1) O0 (Ls := #[.val (.ref a), .val (.ref b)]) (fun m => by first | rfl | (simp [entryFrame, mkF, argsToLocals, Value.category]; done)) ?_
  intro p e s m below meth c T0 X0
  have K0_h0 := Keep.refl h0 [a]
  have n0le := X0.n0le
  have ltq0 := own_n q0.lt
  have ltq1 := own_n q1.lt
  have ltq2 := own_n q2.lt
  have ltq3 := own_n q3.lt
  obtain ⟨G_cs, G_zc, G_fm, isref_fm, G_assertionsDisabled, G_HI_BYTE_SHIFT, G_LO_BYTE_SHIFT⟩ := id G
  refine k_aloadN X0 d_jdk_42_3_0 rfl rfl (pc' := 1) rfl ?_
  refine k_aloadN X0 d_jdk_42_3_1 rfl rfl (pc' := 2) rfl ?_
  refine k_iconst X0 d_jdk_42_3_2 (w := (0 : Int32)) rfl (pc' := 3) rfl ?_
  refine k_aloadN X0 d_jdk_42_3_3 rfl rfl (pc' := 4) rfl ?_
  refine k_arlen X0 d_jdk_42_3_4 q3 (pc' := 5) rfl ?_
  refine k_aconstNull X0 d_jdk_42_3_5 (pc' := 6) rfl ?_
  have ge98 : n0 ≤ a := by omega
  refine k_callPNF X0 (y := (⟨"java/lang/String", "<init>", "([CIILjava/lang/Void;)V"⟩ : MethodName)) d_jdk_42_3_6 (w_17 hw) (w_18 hw) (w_12 hw) (w_20 hw) (by decide) rfl rfl (argsL := [(.ref b), (.int (0 : Int32)), (.int z), .null]) (rest := []) (own_init4L l Z a0 hw G n0 h0 X0.old a b kb z cs hz h1 hn hall (by omega) q0 q1 q2 q3) rfl pd_7 rfl rfl (by decide) (W := 0) (Nat.le_of_eq rfl) (by decide) (by decide) (by decide) (allS ⟨trivial, ge98⟩ all0) (pc' := 9) rfl ?_
  rintro T99 h99 L99 X99 K99 ⟨t_96, kt_97, q99_0, q99_1, q99_2, q99_3, q99_4⟩
  have sz_h99 := K99.1
  have K0_h99 : Keep h0 h99 [a] := K0_h0.trans K99 (allS (Or.inl (List.mem_of_getElem? (i := 0) rfl)) all0)
  have lt99_0 := own_n q99_0.lt
  have lt99_1 := own_n q99_1.lt
  have lt99_2 := own_n q99_2.lt
  have lt99_3 := own_n q99_3.lt
  exact k_retFV X99 d_jdk_42_3_9 rfl K0_h99 ⟨rfl, _, _, q99_0, q99_1, q99_2, q99_3, by omega⟩ (by decide) (by decide)
set_option maxRecDepth 65536 in
set_option maxHeartbeats 40000000 in
theorem own_initS (l : Launch) (Z : State) (a0 : Array Value) (hw : ∀ d ∈ tables_1, d.before a0 Z = true) {zc : Int32} {fm : Value}  (G : Gl Z zc fm) (n0 : Nat) (h0 : Heap) (O0 : Old Z n0 h0) (a : Nat) (b : Nat) (kb : ClassId) (z : Int32) (vs : List Value) (cs : List Int32) (hvs : vs = cs.map Value.int) (hz : z = Int32.ofNat cs.length) (h1 : 0 < cs.length) (hn : cs.length ≤ 4) (gw0 : n0 ≤ a) (q0 : Exa Z h0 a "java/lang/String") (q1 : Fld Z h0 a "java/lang/String" "value" "[B" .null) (q2 : Fld Z h0 a "java/lang/String" "coder" "B" (.int (0 : Int32))) (q3 : Arv Z h0 b kb .char z vs (.int (0 : Int32))) :
    MetF l [] Z n0 (⟨"java/lang/String", "<init>", "([C)V"⟩ : MethodName) jdk_42_method_3_code 2 (Option.none : Option FieldType) ({ frames := 5, cells := 2, slots := 12, locals := 74 } : Room) #[(.ref a), (.ref b)] h0 [a] (fun r h' => r = none ∧ ∃ (t : Nat), ∃ (kt : ClassId), ∃ (cd : Int32), ∃ (zz : Int32), ∃ (bs : List Value), (Exa Z h' a "java/lang/String") ∧ (Fld Z h' a "java/lang/String" "coder" "B" (.int cd)) ∧ (Fld Z h' a "java/lang/String" "value" "[B" (.ref t)) ∧ (Arv Z h' t kt .byte zz bs (.int (0 : Int32))) ∧ (h0.size ≤ t) ∧ (own_cod cs cd zz bs)) := by
  by_cases hf : own_fst cs = cs.length
  · refine (own_initL l Z a0 hw G n0 h0 O0 a b kb z vs cs hvs hz h1 hn (own_all_of_fst hf) gw0 q0 q1 q2 q3).mono ?_
    rintro r h' ⟨rfl, t, kt, r1, r2, r3, r4, r5⟩
    exact ⟨rfl, t, kt, _, _, _, r1, r2, r3, r4, r5, Or.inl ⟨hf, rfl, hz, rfl⟩⟩
  · have hj : own_fst cs < cs.length := by have := own_fst_le cs; omega
    refine (own_initU l Z a0 hw G n0 h0 O0 a b kb z vs cs hvs hz h1 hn hj gw0 q0 q1 q2 q3).mono ?_
    rintro r h' ⟨rfl, t, kt, r1, r2, r3, r4, r5⟩
    exact ⟨rfl, t, kt, _, _, _, r1, r2, r3, r4, r5, Or.inr ⟨hj, rfl, rfl, rfl⟩⟩
set_option maxRecDepth 65536 in
set_option maxHeartbeats 40000000 in
theorem own_init4E (l : Launch) (Z : State) (a0 : Array Value) (hw : ∀ d ∈ tables_1, d.before a0 Z = true) {zc : Int32} {fm : Value}  (G : Gl Z zc fm) (n0 : Nat) (h0 : Heap) (O0 : Old Z n0 h0) (a : Nat) (b : Nat) (gw0 : n0 ≤ a) (q0 : Exa Z h0 a "java/lang/String") (q1 : Fld Z h0 a "java/lang/String" "value" "[B" .null) (q2 : Fld Z h0 a "java/lang/String" "coder" "B" (.int (0 : Int32))) :
    MetH l [] Z EL n0 (⟨"java/lang/String", "<init>", "([CIILjava/lang/Void;)V"⟩ : MethodName) jdk_42_method_149_code 6 (Option.none : Option FieldType) ({ frames := 1, cells := 4, slots := 8, locals := 12 } : Room) #[(.ref a), (.ref b), (.int (0 : Int32)), (.int (0 : Int32)), .null] h0 [a] (fun r v' h' => r = none ∧ ∃ (t : Nat), ∃ (kt : ClassId), (Exa Z h' a "java/lang/String") ∧ (Fld Z h' a "java/lang/String" "coder" "B" (.int (0 : Int32))) ∧ (Fld Z h' a "java/lang/String" "value" "[B" (.ref t)) ∧ (Arv Z h' t kt .byte (0 : Int32) [] (.int (0 : Int32)))) := by
  refine metH (hEL hw) (plainFor_of_name pn_1) O0 (Ls := #[.val (.ref a), .val (.ref b), .val (.int (0 : Int32)), .val (.int (0 : Int32)), .val .null, .unset]) (fun m => by first | rfl | (simp [entryFrame, mkF, argsToLocals, Value.category]; done)) ?_
  intro p e s m below meth c T0 v0 X0 hSf
  have K0_h0 := Keep.refl h0 [a]
  have n0le := X0.n0le
  have ltq0 := own_n q0.lt
  have ltq1 := own_n q1.lt
  have ltq2 := own_n q2.lt
  have sf_0 := hSf a (List.mem_of_getElem? (i := 0) rfl)
  obtain ⟨G_cs, G_zc, G_fm, isref_fm, G_assertionsDisabled, G_HI_BYTE_SHIFT, G_LO_BYTE_SHIFT⟩ := id G
  refine k_aloadN X0 d_jdk_42_149_0 rfl rfl (pc' := 1) rfl ?_
  refine k_initO X0 d_jdk_42_149_1 (w_21 hw) (w_22 hw) (w_23 hw) rfl (by decide) (W := 0) (Nat.le_of_eq rfl) (by decide) (pc' := 4) rfl fun T100 X101 => ?_
  refine k_iloadN X101 d_jdk_42_149_4 rfl (pc' := 5) rfl ?_
  refine k_ifNo X101 d_jdk_42_149_5 (by decide) (pc' := 8) rfl ?_
  refine k_aloadN X101 d_jdk_42_149_8 rfl rfl (pc' := 9) rfl ?_
  refine k_ldcR X101 d_jdk_42_149_9 (w_24 hw) (own_wS hw) (List.mem_of_getElem? (i := 0) rfl) (vs := []) (z := (0 : Int32)) (by decide) (by decide) rfl (n := 0) (by decide) (by decide) (by decide) (by decide) (pc' := 11) rfl fun s102 bb102 kb102 v102 T102 h102 X102 K102 C102 E102 Fc102 Fv102 V102 nq102 => ?_
  have sz_h102 := K102.1
  have K0_h102 : Keep h0 h102 [a] := K0_h0.trans K102 all0
  have lt102 := own_n E102.lt
  have ltb102 := own_n V102.lt
  have c103 := (C102.safe (own_n (by omega)) sf_0)
  have na := nq102 a c103
  have na1 := own_ni na.1
  have na2 := own_ni na.2
  refine k_getF X102 d_jdk_42_149_11 (host := "") (Or.inl (w_30 hw)) Via.refl Fv102 (pc' := 14) rfl fun T104 X105 => ?_
  have c106 := (q1.keep K102 nin0)
  have c107 := (q0.keep K102)
  have ge109 : n0 ≤ a := by omega
  refine k_putF X105 d_jdk_42_149_14 (host := "") (Or.inl (w_30 hw)) Via.refl c106 c107 (Or.inr ⟨(w_26 hw), rfl, X105.hnm⟩) (w_11 hw) (ty := (.array .byte)) (by decide) rfl rfl c103 ge109 (pc' := 17) rfl fun T108 h108 L108 X108 W108 K108 => ?_
  have sz_h108 := K108.1
  have K0_h108 : Keep h0 h108 [a] := K0_h102.trans K108 (allS (Or.inl (List.mem_of_getElem? (i := 0) rfl)) all0)
  have F108 := c106.same W108
  refine k_aloadN X108 d_jdk_42_149_17 rfl rfl (pc' := 18) rfl ?_
  refine k_ldcR X108 d_jdk_42_149_18 (w_24 hw) (own_wS hw) (List.mem_of_getElem? (i := 0) rfl) (vs := []) (z := (0 : Int32)) (by decide) (by decide) rfl (n := 0) (by decide) (by decide) (by decide) (by decide) (pc' := 20) rfl fun s110 bb110 kb110 v110 T110 h110 X110 K110 C110 E110 Fc110 Fv110 V110 nq110 => ?_
  have sz_h110 := K110.1
  have K0_h110 : Keep h0 h110 [a] := K0_h108.trans K110 all0
  have lt110 := own_n E110.lt
  have ltb110 := own_n V110.lt
  have c111 := (C110.safe (own_n (by omega)) (X105.sf K108 (allS ⟨c103, ge109⟩ all0) c103))
  have nb := nq110 a c111
  have nb1 := own_ni nb.1
  have nb2 := own_ni nb.2
  refine k_getF X110 d_jdk_42_149_20 (host := "") (Or.inl (w_31 hw)) Via.refl Fc110 (pc' := 23) rfl fun T112 X113 => ?_
  have c114 := (((q2.keep K102 nin0).other W108 (Or.inr (slot_ne (Or.inr (w_27 hw)) (Or.inr (w_26 hw)) (by decide) (t := .byte) (t' := (.array .byte)) (by decide) (by decide)))).keep K110 nin0)
  have c115 := ((c107.keep K108).keep K110)
  have ge117 : n0 ≤ a := by omega
  refine k_putF X113 d_jdk_42_149_23 (host := "") (Or.inl (w_31 hw)) Via.refl c114 c115 (Or.inr ⟨(w_27 hw), rfl, X113.hnm⟩) (w_11 hw) (ty := .byte) (by decide) rfl rfl c111 ge117 (pc' := 26) rfl fun T116 h116 L116 X116 W116 K116 => ?_
  have sz_h116 := K116.1
  have K0_h116 : Keep h0 h116 [a] := K0_h110.trans K116 (allS (Or.inl (List.mem_of_getElem? (i := 0) rfl)) all0)
  have F116 := c114.same W116
  have c118 := (c115.keep K116)
  have c119 := ((F108.keep K110 nin0).other W116 (Or.inr (slot_ne (Or.inr (w_26 hw)) (Or.inr (w_27 hw)) (by decide) (t := (.array .byte)) (t' := .byte) (by decide) (by decide))))
  have c120 := (((V102.keep K108 (ninS (own_ne (by omega) : bb102 ≠ a) nin0)).keep K110 nin0).keep K116 (ninS (own_ne (by omega) : bb102 ≠ a) nin0))
  exact k_retHV X116 d_jdk_42_149_26 rfl K0_h116 (fun v' C' => ⟨rfl, _, _, c118, F116, c119, c120⟩) (by decide) (by decide)
set_option maxRecDepth 65536 in
set_option maxHeartbeats 40000000 in
theorem own_initE (l : Launch) (Z : State) (a0 : Array Value) (hw : ∀ d ∈ tables_1, d.before a0 Z = true) {zc : Int32} {fm : Value}  (G : Gl Z zc fm) (n0 : Nat) (h0 : Heap) (O0 : Old Z n0 h0) (a : Nat) (b : Nat) (kb : ClassId) (vs : List Value) (dv : Value) (gw0 : n0 ≤ a) (q0 : Exa Z h0 a "java/lang/String") (q1 : Fld Z h0 a "java/lang/String" "value" "[B" .null) (q2 : Fld Z h0 a "java/lang/String" "coder" "B" (.int (0 : Int32))) (q3 : Arv Z h0 b kb .char (0 : Int32) vs dv) :
    MetH l [] Z EL n0 (⟨"java/lang/String", "<init>", "([C)V"⟩ : MethodName) jdk_42_method_3_code 2 (Option.none : Option FieldType) ({ frames := 2, cells := 4, slots := 8, locals := 29 } : Room) #[(.ref a), (.ref b)] h0 [a] (fun r v' h' => r = none ∧ ∃ (t : Nat), ∃ (kt : ClassId), (Exa Z h' a "java/lang/String") ∧ (Fld Z h' a "java/lang/String" "coder" "B" (.int (0 : Int32))) ∧ (Fld Z h' a "java/lang/String" "value" "[B" (.ref t)) ∧ (Arv Z h' t kt .byte (0 : Int32) [] (.int (0 : Int32)))) := by
  refine metH (hEL hw) (plainFor_of_name pn_1) O0 (Ls := #[.val (.ref a), .val (.ref b)]) (fun m => by first | rfl | (simp [entryFrame, mkF, argsToLocals, Value.category]; done)) ?_
  intro p e s m below meth c T0 v0 X0 hSf
  have K0_h0 := Keep.refl h0 [a]
  have n0le := X0.n0le
  have ltq0 := own_n q0.lt
  have ltq1 := own_n q1.lt
  have ltq2 := own_n q2.lt
  have ltq3 := own_n q3.lt
  have sf_0 := hSf a (List.mem_of_getElem? (i := 0) rfl)
  obtain ⟨G_cs, G_zc, G_fm, isref_fm, G_assertionsDisabled, G_HI_BYTE_SHIFT, G_LO_BYTE_SHIFT⟩ := id G
  refine k_aloadN X0 d_jdk_42_3_0 rfl rfl (pc' := 1) rfl ?_
  refine k_aloadN X0 d_jdk_42_3_1 rfl rfl (pc' := 2) rfl ?_
  refine k_iconst X0 d_jdk_42_3_2 (w := (0 : Int32)) rfl (pc' := 3) rfl ?_
  refine k_aloadN X0 d_jdk_42_3_3 rfl rfl (pc' := 4) rfl ?_
  refine k_arlen X0 d_jdk_42_3_4 q3 (pc' := 5) rfl ?_
  refine k_aconstNull X0 d_jdk_42_3_5 (pc' := 6) rfl ?_
  have ge123 : n0 ≤ a := by omega
  refine k_callPNH X0 (y := (⟨"java/lang/String", "<init>", "([CIILjava/lang/Void;)V"⟩ : MethodName)) d_jdk_42_3_6 (w_17 hw) (w_18 hw) (w_12 hw) (w_20 hw) (by decide) rfl rfl (argsL := [(.ref b), (.int (0 : Int32)), (.int (0 : Int32)), .null]) (rest := []) (own_init4E l Z a0 hw G n0 h0 X0.old a b (by omega) q0 q1 q2) rfl pd_7 rfl rfl (by decide) (W := 0) (Nat.le_of_eq rfl) (by decide) (by decide) (by decide) (allS ⟨⟨own_n (by omega), sf_0⟩, ge123⟩ all0) (pc' := 9) rfl ?_
  rintro v124 T124 h124 L124 X124 K124 C124 ⟨t_121, kt_122, q124_0, q124_1, q124_2, q124_3⟩
  have sz_h124 := K124.1
  have K0_h124 : Keep h0 h124 [a] := K0_h0.trans K124 (allS (Or.inl (List.mem_of_getElem? (i := 0) rfl)) all0)
  have lt124_0 := own_n q124_0.lt
  have lt124_1 := own_n q124_1.lt
  have lt124_2 := own_n q124_2.lt
  have lt124_3 := own_n q124_3.lt
  exact k_retHV X124 d_jdk_42_3_9 rfl K0_h124 (fun v' C' => ⟨rfl, _, _, q124_0, q124_1, q124_2, q124_3⟩) (by decide) (by decide)
set_option maxRecDepth 65536 in
set_option maxHeartbeats 40000000 in
theorem own_coder (l : Launch) (Z : State) (a0 : Array Value) (hw : ∀ d ∈ tables_1, d.before a0 Z = true) {zc : Int32} {fm : Value}  (G : Gl Z zc fm) (n0 : Nat) (h0 : Heap) (O0 : Old Z n0 h0) (a : Nat) (cd : Int32) (hcd : cd = 0 ∨ cd = 1)  (q0 : Fld Z h0 a "java/lang/String" "coder" "B" (.int cd)) :
    MetF l [] Z n0 (⟨"java/lang/String", "coder", "()B"⟩ : MethodName) jdk_42_method_152_code 1 (Option.some FieldType.byte) ({ frames := 0, cells := 0, slots := 0, locals := 0 } : Room) #[(.ref a)] h0 [] (fun r h' => ∃ w, r = some w ∧ w = (.int cd) ∧ True) := by
  refine metF (plainFor_of_name pn_1) O0 (Ls := #[.val (.ref a)]) (fun m => by first | rfl | (simp [entryFrame, mkF, argsToLocals, Value.category]; done)) ?_
  intro p e s m below meth c T0 X0
  have K0_h0 := Keep.refl h0 []
  have n0le := X0.n0le
  have ltq0 := own_n q0.lt
  obtain ⟨G_cs, G_zc, G_fm, isref_fm, G_assertionsDisabled, G_HI_BYTE_SHIFT, G_LO_BYTE_SHIFT⟩ := id G
  refine k_getS X0 d_jdk_42_152_0 (host := "") (Or.inl (w_49 hw)) Via.refl (G_cs.ext X0.old.2) (pc' := 3) rfl fun T125 X126 => ?_
  refine k_ifNo X126 d_jdk_42_152_3 ((if0 _ _).trans (feq G_zc).1) (pc' := 6) rfl ?_
  refine k_aloadN X126 d_jdk_42_152_6 rfl rfl (pc' := 7) rfl ?_
  refine k_getF X126 d_jdk_42_152_7 (host := "") (Or.inl (w_31 hw)) Via.refl q0 (pc' := 10) rfl fun T127 X128 => ?_
  refine k_goto X128 d_jdk_42_152_10 (pc' := 14) (by decide) (by decide) ?_
  exact k_retFN X128 (w := cd) d_jdk_42_152_14 (t := .byte) rfl (by simp) (own_nar01 hcd) K0_h0 ⟨_, rfl, rfl, trivial⟩ (by decide) (by decide)
set_option maxRecDepth 65536 in
set_option maxHeartbeats 40000000 in
theorem own_isLat0 (l : Launch) (Z : State) (a0 : Array Value) (hw : ∀ d ∈ tables_1, d.before a0 Z = true) {zc : Int32} {fm : Value}  (G : Gl Z zc fm) (n0 : Nat) (h0 : Heap) (O0 : Old Z n0 h0) (a : Nat)  (q0 : Fld Z h0 a "java/lang/String" "coder" "B" (.int (0 : Int32))) :
    MetF l [] Z n0 (⟨"java/lang/String", "isLatin1", "()Z"⟩ : MethodName) jdk_42_method_154_code 1 (Option.some FieldType.boolean) ({ frames := 0, cells := 0, slots := 0, locals := 0 } : Room) #[(.ref a)] h0 [] (fun r h' => ∃ w, r = some w ∧ w = (.int (1 : Int32)) ∧ True) := by
  refine metF (plainFor_of_name pn_1) O0 (Ls := #[.val (.ref a)]) (fun m => by first | rfl | (simp [entryFrame, mkF, argsToLocals, Value.category]; done)) ?_
  intro p e s m below meth c T0 X0
  have K0_h0 := Keep.refl h0 []
  have n0le := X0.n0le
  have ltq0 := own_n q0.lt
  obtain ⟨G_cs, G_zc, G_fm, isref_fm, G_assertionsDisabled, G_HI_BYTE_SHIFT, G_LO_BYTE_SHIFT⟩ := id G
  refine k_getS X0 d_jdk_42_154_0 (host := "") (Or.inl (w_49 hw)) Via.refl (G_cs.ext X0.old.2) (pc' := 3) rfl fun T129 X130 => ?_
  refine k_ifNo X130 d_jdk_42_154_3 ((if0 _ _).trans (feq G_zc).1) (pc' := 6) rfl ?_
  refine k_aloadN X130 d_jdk_42_154_6 rfl rfl (pc' := 7) rfl ?_
  refine k_getF X130 d_jdk_42_154_7 (host := "") (Or.inl (w_31 hw)) Via.refl q0 (pc' := 10) rfl fun T131 X132 => ?_
  refine k_ifNo X132 d_jdk_42_154_10 (by decide) (pc' := 13) rfl ?_
  refine k_iconst X132 d_jdk_42_154_13 (w := (1 : Int32)) rfl (pc' := 14) rfl ?_
  refine k_goto X132 d_jdk_42_154_14 (pc' := 18) (by decide) (by decide) ?_
  exact k_retFN X132 (w := (1 : Int32)) d_jdk_42_154_18 (t := .boolean) rfl (by simp) rfl K0_h0 ⟨_, rfl, rfl, trivial⟩ (by decide) (by decide)
set_option maxRecDepth 65536 in
set_option maxHeartbeats 40000000 in
theorem own_isLat1 (l : Launch) (Z : State) (a0 : Array Value) (hw : ∀ d ∈ tables_1, d.before a0 Z = true) {zc : Int32} {fm : Value}  (G : Gl Z zc fm) (n0 : Nat) (h0 : Heap) (O0 : Old Z n0 h0) (a : Nat)  (q0 : Fld Z h0 a "java/lang/String" "coder" "B" (.int (1 : Int32))) :
    MetF l [] Z n0 (⟨"java/lang/String", "isLatin1", "()Z"⟩ : MethodName) jdk_42_method_154_code 1 (Option.some FieldType.boolean) ({ frames := 0, cells := 0, slots := 0, locals := 0 } : Room) #[(.ref a)] h0 [] (fun r h' => ∃ w, r = some w ∧ w = (.int (0 : Int32)) ∧ True) := by
  refine metF (plainFor_of_name pn_1) O0 (Ls := #[.val (.ref a)]) (fun m => by first | rfl | (simp [entryFrame, mkF, argsToLocals, Value.category]; done)) ?_
  intro p e s m below meth c T0 X0
  have K0_h0 := Keep.refl h0 []
  have n0le := X0.n0le
  have ltq0 := own_n q0.lt
  obtain ⟨G_cs, G_zc, G_fm, isref_fm, G_assertionsDisabled, G_HI_BYTE_SHIFT, G_LO_BYTE_SHIFT⟩ := id G
  refine k_getS X0 d_jdk_42_154_0 (host := "") (Or.inl (w_49 hw)) Via.refl (G_cs.ext X0.old.2) (pc' := 3) rfl fun T133 X134 => ?_
  refine k_ifNo X134 d_jdk_42_154_3 ((if0 _ _).trans (feq G_zc).1) (pc' := 6) rfl ?_
  refine k_aloadN X134 d_jdk_42_154_6 rfl rfl (pc' := 7) rfl ?_
  refine k_getF X134 d_jdk_42_154_7 (host := "") (Or.inl (w_31 hw)) Via.refl q0 (pc' := 10) rfl fun T135 X136 => ?_
  refine k_ifYes X136 d_jdk_42_154_10 (by decide) (pc' := 17) (by decide) (by decide) ?_
  refine k_iconst X136 d_jdk_42_154_17 (w := (0 : Int32)) rfl (pc' := 18) rfl ?_
  exact k_retFN X136 (w := (0 : Int32)) d_jdk_42_154_18 (t := .boolean) rfl (by simp) rfl K0_h0 ⟨_, rfl, rfl, trivial⟩ (by decide) (by decide)
set_option maxRecDepth 65536 in
set_option maxHeartbeats 40000000 in
theorem own_len (l : Launch) (Z : State) (a0 : Array Value) (hw : ∀ d ∈ tables_1, d.before a0 Z = true) {zc : Int32} {fm : Value}  (G : Gl Z zc fm) (n0 : Nat) (h0 : Heap) (O0 : Old Z n0 h0) (a : Nat) (t : Nat) (kt : ClassId) (cd : Int32) (zz : Int32) (bs : List Value) (cs : List Int32) (hn : cs.length < 1073741824)  (q0 : Exa Z h0 a "java/lang/String") (q1 : Fld Z h0 a "java/lang/String" "value" "[B" (.ref t)) (q2 : Fld Z h0 a "java/lang/String" "coder" "B" (.int cd)) (q3 : Arv Z h0 t kt .byte zz bs (.int (0 : Int32))) (q4 : own_cod cs cd zz bs) :
    MetF l [] Z n0 (⟨"java/lang/String", "length", "()I"⟩ : MethodName) jdk_42_method_54_code 1 (Option.some FieldType.int) ({ frames := 1, cells := 0, slots := 0, locals := 13 } : Room) #[(.ref a)] h0 [] (fun r h' => ∃ w, r = some w ∧ w = (.int (Int32.ofNat cs.length)) ∧ True) := by
  refine metF (plainFor_of_name pn_1) O0 (Ls := #[.val (.ref a)]) (fun m => by first | rfl | (simp [entryFrame, mkF, argsToLocals, Value.category]; done)) ?_
  intro p e s m below meth c T0 X0
  have K0_h0 := Keep.refl h0 []
  have n0le := X0.n0le
  have ltq0 := own_n q0.lt
  have ltq1 := own_n q1.lt
  have ltq2 := own_n q2.lt
  have ltq3 := own_n q3.lt
  obtain ⟨G_cs, G_zc, G_fm, isref_fm, G_assertionsDisabled, G_HI_BYTE_SHIFT, G_LO_BYTE_SHIFT⟩ := id G
  refine k_aloadN X0 d_jdk_42_54_0 rfl rfl (pc' := 1) rfl ?_
  refine k_getF X0 d_jdk_42_54_1 (host := "") (Or.inl (w_30 hw)) Via.refl q1 (pc' := 4) rfl fun T137 X138 => ?_
  refine k_arlen X138 d_jdk_42_54_4 q3 (pc' := 5) rfl ?_
  refine k_aloadN X138 d_jdk_42_54_5 rfl rfl (pc' := 6) rfl ?_
  refine k_callVVF X138 (y := (⟨"java/lang/String", "coder", "()B"⟩ : MethodName)) d_jdk_42_54_6 (w_44 hw) (w_45 hw) (w_47 hw) (w_46 hw) (w_12 hw) (w_48 hw) (by decide) (notFace_of_selects (args := #[]) (mvT X138.hZ (w_47 hw))) q0 (argsL := []) (rest := [(.int zz)]) (own_coder l Z a0 hw G n0 h0 X138.old a cd (own_cod_cd q4) q2) rfl pd_8 rfl rfl (by decide) (W := 1) (Nat.le_of_eq rfl) (by decide) (by decide) (by decide) all0 (pc' := 9) rfl ?_
  rintro _ T139 h139 L139 X139 K139 ⟨rfl, -⟩
  have sz_h139 := K139.1
  have K0_h139 : Keep h0 h139 [] := K0_h0.trans K139 all0
  refine k_ishr X139 d_jdk_42_54_9 (w := (Int32.ofNat cs.length)) (own_cod_len q4 hn) (pc' := 10) rfl ?_
  exact k_retFI X139 d_jdk_42_54_10 rfl K0_h139 ⟨_, rfl, rfl, trivial⟩ (by decide) (by decide)
set_option maxRecDepth 65536 in
set_option maxHeartbeats 40000000 in
theorem own_pci (l : Launch) (Z : State) (a0 : Array Value) (hw : ∀ d ∈ tables_1, d.before a0 Z = true) {zc : Int32} {fm : Value}  (G : Gl Z zc fm) (n0 : Nat) (h0 : Heap) (O0 : Old Z n0 h0) (i : Int32) (n : Int32) (f : Value) (hf : f.isRef = true) (hi0 : ¬ i < 0) (hi1 : i < n)   :
    MetF l [] Z n0 (⟨"jdk/internal/util/Preconditions", "checkIndex", "(IILjava/util/function/BiFunction;)I"⟩ : MethodName) jdk_41_method_11_code 3 (Option.some FieldType.int) ({ frames := 0, cells := 0, slots := 0, locals := 0 } : Room) #[(.int i), (.int n), f] h0 [] (fun r h' => ∃ w, r = some w ∧ w = (.int i) ∧ True) := by
  rcases ref_cases hf with rfl | ⟨z, rfl⟩
  · refine metF (plainFor_of_name pn_2) O0 (Ls := #[.val (.int i), .val (.int n), .val .null]) (fun m => by first | rfl | (simp [entryFrame, mkF, argsToLocals, Value.category]; done)) ?_
    intro p e s m below meth c T0 X0
    have K0_h0 := Keep.refl h0 []
    have n0le := X0.n0le
    obtain ⟨G_cs, G_zc, G_fm, isref_fm, G_assertionsDisabled, G_HI_BYTE_SHIFT, G_LO_BYTE_SHIFT⟩ := id G
    refine k_iloadN X0 d_jdk_41_11_0 rfl (pc' := 1) rfl ?_
    refine k_ifNo X0 d_jdk_41_11_1 ((if0 _ _).trans (flt hi0).1) (pc' := 4) rfl ?_
    refine k_iloadN X0 d_jdk_41_11_4 rfl (pc' := 5) rfl ?_
    refine k_iloadN X0 d_jdk_41_11_5 rfl (pc' := 6) rfl ?_
    refine k_icmpYes X0 d_jdk_41_11_6 (tlt hi1).1 (pc' := 16) (by decide) (by decide) ?_
    refine k_iloadN X0 d_jdk_41_11_16 rfl (pc' := 17) rfl ?_
    exact k_retFI X0 d_jdk_41_11_17 rfl K0_h0 ⟨_, rfl, rfl, trivial⟩ (by decide) (by decide)
  · refine metF (plainFor_of_name pn_2) O0 (Ls := #[.val (.int i), .val (.int n), .val (.ref z)]) (fun m => by first | rfl | (simp [entryFrame, mkF, argsToLocals, Value.category]; done)) ?_
    intro p e s m below meth c T0 X0
    have K0_h0 := Keep.refl h0 []
    have n0le := X0.n0le
    obtain ⟨G_cs, G_zc, G_fm, isref_fm, G_assertionsDisabled, G_HI_BYTE_SHIFT, G_LO_BYTE_SHIFT⟩ := id G
    refine k_iloadN X0 d_jdk_41_11_0 rfl (pc' := 1) rfl ?_
    refine k_ifNo X0 d_jdk_41_11_1 ((if0 _ _).trans (flt hi0).1) (pc' := 4) rfl ?_
    refine k_iloadN X0 d_jdk_41_11_4 rfl (pc' := 5) rfl ?_
    refine k_iloadN X0 d_jdk_41_11_5 rfl (pc' := 6) rfl ?_
    refine k_icmpYes X0 d_jdk_41_11_6 (tlt hi1).1 (pc' := 16) (by decide) (by decide) ?_
    refine k_iloadN X0 d_jdk_41_11_16 rfl (pc' := 17) rfl ?_
    exact k_retFI X0 d_jdk_41_11_17 rfl K0_h0 ⟨_, rfl, rfl, trivial⟩ (by decide) (by decide)
set_option maxRecDepth 65536 in
set_option maxHeartbeats 40000000 in
theorem own_sci (l : Launch) (Z : State) (a0 : Array Value) (hw : ∀ d ∈ tables_1, d.before a0 Z = true) {zc : Int32} {fm : Value}  (G : Gl Z zc fm) (n0 : Nat) (h0 : Heap) (O0 : Old Z n0 h0) (i : Int32) (n : Int32) (hi0 : ¬ i < 0) (hi1 : i < n)   :
    MetF l [] Z n0 (⟨"java/lang/String", "checkIndex", "(II)V"⟩ : MethodName) jdk_42_method_155_code 2 (Option.none : Option FieldType) ({ frames := 1, cells := 0, slots := 0, locals := 14 } : Room) #[(.int i), (.int n)] h0 [] (fun r h' => r = none ∧ True) := by
  refine metF (plainFor_of_name pn_1) O0 (Ls := #[.val (.int i), .val (.int n)]) (fun m => by first | rfl | (simp [entryFrame, mkF, argsToLocals, Value.category]; done)) ?_
  intro p e s m below meth c T0 X0
  have K0_h0 := Keep.refl h0 []
  have n0le := X0.n0le
  obtain ⟨G_cs, G_zc, G_fm, isref_fm, G_assertionsDisabled, G_HI_BYTE_SHIFT, G_LO_BYTE_SHIFT⟩ := id G
  refine k_iloadN X0 d_jdk_42_155_0 rfl (pc' := 1) rfl ?_
  refine k_iloadN X0 d_jdk_42_155_1 rfl (pc' := 2) rfl ?_
  refine k_getS X0 d_jdk_42_155_2 (host := "") (Or.inl (w_134 hw)) Via.refl (G_fm.ext X0.old.2) (pc' := 5) rfl fun T141 X142 => ?_
  refine k_callSVF X142 (y := (⟨"jdk/internal/util/Preconditions", "checkIndex", "(IILjava/util/function/BiFunction;)I"⟩ : MethodName)) d_jdk_42_155_5 (w_136 hw) (w_137 hw) (w_135 hw) (w_138 hw) (by decide) (argsL := [(.int i), (.int n), fm]) (rest := []) (own_pci l Z a0 hw G n0 h0 X142.old i n fm isref_fm hi0 hi1 ) rfl pd_9 rfl rfl (by decide) (W := 0) (Nat.le_of_eq rfl) (by decide) (by decide) (by decide) all0 (pc' := 8) rfl ?_
  rintro _ T143 h143 L143 X143 K143 ⟨rfl, -⟩
  have sz_h143 := K143.1
  have K0_h143 : Keep h0 h143 [] := K0_h0.trans K143 all0
  refine k_pop X143 d_jdk_42_155_8 rfl (pc' := 9) rfl ?_
  exact k_retFV X143 d_jdk_42_155_9 rfl K0_h143 ⟨rfl, trivial⟩ (by decide) (by decide)
set_option maxRecDepth 65536 in
set_option maxHeartbeats 40000000 in
theorem own_lcharAt (l : Launch) (Z : State) (a0 : Array Value) (hw : ∀ d ∈ tables_1, d.before a0 Z = true) {zc : Int32} {fm : Value}  (G : Gl Z zc fm) (n0 : Nat) (h0 : Heap) (O0 : Old Z n0 h0) (d : Nat) (kd : ClassId) (zz : Int32) (cs : List Int32) (i : Nat) (iv : Int32) (hiv : iv = Int32.ofNat i) (hi : i < cs.length) (hzz : zz = Int32.ofNat cs.length) (hb0 : cs.length < 2147483648) (hr : ¬ cs.getD i 0 < 0 ∧ ¬ 255 < cs.getD i 0)  (q0 : Arv Z h0 d kd .byte zz (own_lat cs) (.int (0 : Int32))) :
    MetF l [] Z n0 (⟨"java/lang/StringLatin1", "charAt", "([BI)C"⟩ : MethodName) jdk_43_method_2_code 2 (Option.some FieldType.char) ({ frames := 2, cells := 0, slots := 0, locals := 27 } : Room) #[(.ref d), (.int iv)] h0 [] (fun r h' => ∃ w, r = some w ∧ w = (.int (cs.getD i 0)) ∧ True) := by
  subst hiv
  refine metF (plainFor_of_name pn_3) O0 (Ls := #[.val (.ref d), .val (.int (Int32.ofNat i))]) (fun m => by first | rfl | (simp [entryFrame, mkF, argsToLocals, Value.category]; done)) ?_
  intro p e s m below meth c T0 X0
  have K0_h0 := Keep.refl h0 []
  have n0le := X0.n0le
  have ltq0 := own_n q0.lt
  obtain ⟨G_cs, G_zc, G_fm, isref_fm, G_assertionsDisabled, G_HI_BYTE_SHIFT, G_LO_BYTE_SHIFT⟩ := id G
  have l1 := own_lt hi hb0
  rw [← hzz] at l1
  refine k_iloadN X0 d_jdk_43_2_0 rfl (pc' := 1) rfl ?_
  refine k_aloadN X0 d_jdk_43_2_1 rfl rfl (pc' := 2) rfl ?_
  refine k_arlen X0 d_jdk_43_2_2 q0 (pc' := 3) rfl ?_
  refine k_callSNF X0 (y := (⟨"java/lang/String", "checkIndex", "(II)V"⟩ : MethodName)) d_jdk_43_2_3 (w_155 hw) (w_132 hw) (w_12 hw) (w_133 hw) (by decide) (argsL := [(.int (Int32.ofNat i)), (.int zz)]) (rest := []) (own_sci l Z a0 hw G n0 h0 X0.old (Int32.ofNat i) zz (own_nn (by omega)) l1 ) rfl pd_10 rfl rfl (by decide) (W := 0) (Nat.le_of_eq rfl) (by decide) (by decide) (by decide) all0 (pc' := 6) rfl ?_
  rintro T145 h145 L145 X145 K145 -
  have sz_h145 := K145.1
  have K0_h145 : Keep h0 h145 [] := K0_h0.trans K145 all0
  refine k_aloadN X145 d_jdk_43_2_6 rfl rfl (pc' := 7) rfl ?_
  refine k_iloadN X145 d_jdk_43_2_7 rfl (pc' := 8) rfl ?_
  have c146 := (q0.keep K145 nin0)
  refine k_baload X145 d_jdk_43_2_8 c146 (own_nn (by omega)) l1 (v := (.int ((cs.getD i 0).toInt8.toInt32))) (own_latget cs hi (by omega)) (pc' := 9) rfl ?_
  refine k_sipush X145 d_jdk_43_2_9 (w := (255 : Int32)) rfl (pc' := 12) rfl ?_
  refine k_iand X145 d_jdk_43_2_12 (w := (((cs.getD i 0).toInt8.toInt32) &&& (255 : Int32))) rfl (pc' := 13) rfl ?_
  refine k_i2c X145 d_jdk_43_2_13 (w := (cs.getD i 0)) (own_back8 hr.1 hr.2) (pc' := 14) rfl ?_
  exact k_retFN X145 (w := (cs.getD i 0)) d_jdk_43_2_14 (t := .char) rfl (by simp) (own_i2c_id hr.1 (own_255 hr.2)) K0_h145 ⟨_, rfl, rfl, trivial⟩ (by decide) (by decide)
set_option maxRecDepth 65536 in
set_option maxHeartbeats 40000000 in
theorem own_ulen (l : Launch) (Z : State) (a0 : Array Value) (hw : ∀ d ∈ tables_1, d.before a0 Z = true) {zc : Int32} {fm : Value}  (G : Gl Z zc fm) (n0 : Nat) (h0 : Heap) (O0 : Old Z n0 h0) (d : Nat) (kd : ClassId) (n : Nat) (bs : List Value) (dv : Value) (hn : n < 1073741824)  (q0 : Arv Z h0 d kd .byte (Int32.ofNat (2 * n)) bs dv) :
    MetF l [] Z n0 (⟨"java/lang/StringUTF16", "length", "([B)I"⟩ : MethodName) jdk_52_method_6_code 1 (Option.some FieldType.int) ({ frames := 0, cells := 0, slots := 0, locals := 0 } : Room) #[(.ref d)] h0 [] (fun r h' => ∃ w, r = some w ∧ w = (.int (Int32.ofNat n)) ∧ True) := by
  refine metF (plainFor_of_name pn_0) O0 (Ls := #[.val (.ref d)]) (fun m => by first | rfl | (simp [entryFrame, mkF, argsToLocals, Value.category]; done)) ?_
  intro p e s m below meth c T0 X0
  have K0_h0 := Keep.refl h0 []
  have n0le := X0.n0le
  have ltq0 := own_n q0.lt
  obtain ⟨G_cs, G_zc, G_fm, isref_fm, G_assertionsDisabled, G_HI_BYTE_SHIFT, G_LO_BYTE_SHIFT⟩ := id G
  refine k_aloadN X0 d_jdk_52_6_0 rfl rfl (pc' := 1) rfl ?_
  refine k_arlen X0 d_jdk_52_6_1 q0 (pc' := 2) rfl ?_
  refine k_iconst X0 d_jdk_52_6_2 (w := (1 : Int32)) rfl (pc' := 3) rfl ?_
  refine k_ishr X0 d_jdk_52_6_3 (w := (Int32.ofNat n)) (own_shr1 hn) (pc' := 4) rfl ?_
  exact k_retFI X0 d_jdk_52_6_4 rfl K0_h0 ⟨_, rfl, rfl, trivial⟩ (by decide) (by decide)
set_option maxRecDepth 65536 in
set_option maxHeartbeats 40000000 in
theorem own_uci (l : Launch) (Z : State) (a0 : Array Value) (hw : ∀ d ∈ tables_1, d.before a0 Z = true) {zc : Int32} {fm : Value}  (G : Gl Z zc fm) (n0 : Nat) (h0 : Heap) (O0 : Old Z n0 h0) (iv : Int32) (d : Nat) (kd : ClassId) (n : Nat) (bs : List Value) (dv : Value) (hn : n < 1073741824) (hi0 : ¬ iv < 0) (hi1 : iv < Int32.ofNat n)  (q0 : Arv Z h0 d kd .byte (Int32.ofNat (2 * n)) bs dv) :
    MetF l [] Z n0 (⟨"java/lang/StringUTF16", "checkIndex", "(I[B)V"⟩ : MethodName) jdk_52_method_91_code 2 (Option.none : Option FieldType) ({ frames := 2, cells := 0, slots := 0, locals := 27 } : Room) #[(.int iv), (.ref d)] h0 [] (fun r h' => r = none ∧ True) := by
  refine metF (plainFor_of_name pn_0) O0 (Ls := #[.val (.int iv), .val (.ref d)]) (fun m => by first | rfl | (simp [entryFrame, mkF, argsToLocals, Value.category]; done)) ?_
  intro p e s m below meth c T0 X0
  have K0_h0 := Keep.refl h0 []
  have n0le := X0.n0le
  have ltq0 := own_n q0.lt
  obtain ⟨G_cs, G_zc, G_fm, isref_fm, G_assertionsDisabled, G_HI_BYTE_SHIFT, G_LO_BYTE_SHIFT⟩ := id G
  refine k_iloadN X0 d_jdk_52_91_0 rfl (pc' := 1) rfl ?_
  refine k_aloadN X0 d_jdk_52_91_1 rfl rfl (pc' := 2) rfl ?_
  refine k_callSVF X0 (y := (⟨"java/lang/StringUTF16", "length", "([B)I"⟩ : MethodName)) d_jdk_52_91_2 (w_128 hw) (w_129 hw) (w_78 hw) (w_130 hw) (by decide) (argsL := [(.ref d)]) (rest := [(.int iv)]) (own_ulen l Z a0 hw G n0 h0 X0.old d kd n bs dv hn q0) rfl pd_11 rfl rfl (by decide) (W := 1) (Nat.le_of_eq rfl) (by decide) (by decide) (by decide) all0 (pc' := 5) rfl ?_
  rintro _ T147 h147 L147 X147 K147 ⟨rfl, -⟩
  have sz_h147 := K147.1
  have K0_h147 : Keep h0 h147 [] := K0_h0.trans K147 all0
  refine k_callSNF X147 (y := (⟨"java/lang/String", "checkIndex", "(II)V"⟩ : MethodName)) d_jdk_52_91_5 (w_131 hw) (w_132 hw) (w_12 hw) (w_133 hw) (by decide) (argsL := [(.int iv), (.int (Int32.ofNat n))]) (rest := []) (own_sci l Z a0 hw G n0 h147 X147.old iv (Int32.ofNat n) hi0 hi1 ) rfl pd_10 rfl rfl (by decide) (W := 0) (Nat.le_of_eq rfl) (by decide) (by decide) (by decide) all0 (pc' := 8) rfl ?_
  rintro T149 h149 L149 X149 K149 -
  have sz_h149 := K149.1
  have K0_h149 : Keep h0 h149 [] := K0_h147.trans K149 all0
  exact k_retFV X149 d_jdk_52_91_8 rfl K0_h149 ⟨rfl, trivial⟩ (by decide) (by decide)
set_option maxRecDepth 65536 in
set_option maxHeartbeats 40000000 in
theorem own_ucharAt (l : Launch) (Z : State) (a0 : Array Value) (hw : ∀ d ∈ tables_1, d.before a0 Z = true) {zc : Int32} {fm : Value}  (G : Gl Z zc fm) (n0 : Nat) (h0 : Heap) (O0 : Old Z n0 h0) (d : Nat) (kd : ClassId) (cs : List Int32) (i : Nat) (iv : Int32) (hiv : iv = Int32.ofNat i) (hi : i < cs.length) (hb0 : 2 * cs.length < 2147483648) (hr : ¬ cs.getD i 0 < 0 ∧ ¬ 65535 < cs.getD i 0)  (q0 : Arv Z h0 d kd .byte (Int32.ofNat (2 * cs.length)) (own_u16 cs) (.int (0 : Int32))) :
    MetF l [] Z n0 (⟨"java/lang/StringUTF16", "charAt", "([BI)C"⟩ : MethodName) jdk_52_method_83_code 2 (Option.some FieldType.char) ({ frames := 3, cells := 0, slots := 0, locals := 40 } : Room) #[(.ref d), (.int iv)] h0 [] (fun r h' => ∃ w, r = some w ∧ w = (.int (cs.getD i 0)) ∧ True) := by
  subst hiv
  refine metF (plainFor_of_name pn_0) O0 (Ls := #[.val (.ref d), .val (.int (Int32.ofNat i))]) (fun m => by first | rfl | (simp [entryFrame, mkF, argsToLocals, Value.category]; done)) ?_
  intro p e s m below meth c T0 X0
  have K0_h0 := Keep.refl h0 []
  have n0le := X0.n0le
  have ltq0 := own_n q0.lt
  obtain ⟨G_cs, G_zc, G_fm, isref_fm, G_assertionsDisabled, G_HI_BYTE_SHIFT, G_LO_BYTE_SHIFT⟩ := id G
  have l1 := own_lt hi (by omega)
  refine k_iloadN X0 d_jdk_52_83_0 rfl (pc' := 1) rfl ?_
  refine k_aloadN X0 d_jdk_52_83_1 rfl rfl (pc' := 2) rfl ?_
  refine k_callSNF X0 (y := (⟨"java/lang/StringUTF16", "checkIndex", "(I[B)V"⟩ : MethodName)) d_jdk_52_83_2 (w_125 hw) (w_126 hw) (w_78 hw) (w_127 hw) (by decide) (argsL := [(.int (Int32.ofNat i)), (.ref d)]) (rest := []) (own_uci l Z a0 hw G n0 h0 X0.old (Int32.ofNat i) d kd (cs.length) (own_u16 cs) (.int (0 : Int32)) (by omega) (own_nn (by omega)) l1 q0) rfl pd_12 rfl rfl (by decide) (W := 0) (Nat.le_of_eq rfl) (by decide) (by decide) (by decide) all0 (pc' := 5) rfl ?_
  rintro T150 h150 L150 X150 K150 -
  have sz_h150 := K150.1
  have K0_h150 : Keep h0 h150 [] := K0_h0.trans K150 all0
  refine k_aloadN X150 d_jdk_52_83_5 rfl rfl (pc' := 6) rfl ?_
  refine k_iloadN X150 d_jdk_52_83_6 rfl (pc' := 7) rfl ?_
  have c151 := (q0.keep K150 nin0)
  refine k_callSVF X150 (y := (⟨"java/lang/StringUTF16", "getChar", "([BI)C"⟩ : MethodName)) d_jdk_52_83_7 (w_109 hw) (w_110 hw) (w_78 hw) (w_111 hw) (by decide) (argsL := [(.ref d), (.int (Int32.ofNat i))]) (rest := []) (own_getC l Z a0 hw G n0 h150 X150.old d kd (Int32.ofNat (2 * cs.length)) cs i (Int32.ofNat i) rfl hi rfl hb0 hr c151) rfl pd_6 rfl rfl (by decide) (W := 0) (Nat.le_of_eq rfl) (by decide) (by decide) (by decide) all0 (pc' := 10) rfl ?_
  rintro _ T152 h152 L152 X152 K152 ⟨rfl, -⟩
  have sz_h152 := K152.1
  have K0_h152 : Keep h0 h152 [] := K0_h150.trans K152 all0
  exact k_retFN X152 (w := (cs.getD i 0)) d_jdk_52_83_10 (t := .char) rfl (by simp) (own_i2c_id hr.1 hr.2) K0_h152 ⟨_, rfl, rfl, trivial⟩ (by decide) (by decide)
set_option maxRecDepth 65536 in
set_option maxHeartbeats 40000000 in
theorem own_charAt (l : Launch) (Z : State) (a0 : Array Value) (hw : ∀ d ∈ tables_1, d.before a0 Z = true) {zc : Int32} {fm : Value}  (G : Gl Z zc fm) (n0 : Nat) (h0 : Heap) (O0 : Old Z n0 h0) (a : Nat) (t : Nat) (kt : ClassId) (cd : Int32) (zz : Int32) (bs : List Value) (cs : List Int32) (i : Nat) (iv : Int32) (hiv : iv = Int32.ofNat i) (hi : i < cs.length) (hn : cs.length < 1073741823) (hr : ¬ cs.getD i 0 < 0 ∧ ¬ 65535 < cs.getD i 0)  (q0 : Exa Z h0 a "java/lang/String") (q1 : Fld Z h0 a "java/lang/String" "value" "[B" (.ref t)) (q2 : Fld Z h0 a "java/lang/String" "coder" "B" (.int cd)) (q3 : Arv Z h0 t kt .byte zz bs (.int (0 : Int32))) (q4 : own_cod cs cd zz bs) :
    MetF l [] Z n0 (⟨"java/lang/String", "charAt", "(I)C"⟩ : MethodName) jdk_42_method_56_code 2 (Option.some FieldType.char) ({ frames := 4, cells := 0, slots := 0, locals := 53 } : Room) #[(.ref a), (.int iv)] h0 [] (fun r h' => ∃ w, r = some w ∧ w = (.int (cs.getD i 0)) ∧ True) := by
  subst hiv
  rcases q4 with ⟨hf, rfl, rfl, rfl⟩ | ⟨hf, rfl, rfl, rfl⟩
  · refine metF (plainFor_of_name pn_1) O0 (Ls := #[.val (.ref a), .val (.int (Int32.ofNat i))]) (fun m => by first | rfl | (simp [entryFrame, mkF, argsToLocals, Value.category]; done)) ?_
    intro p e s m below meth c T0 X0
    have K0_h0 := Keep.refl h0 []
    have n0le := X0.n0le
    have ltq0 := own_n q0.lt
    have ltq1 := own_n q1.lt
    have ltq2 := own_n q2.lt
    have ltq3 := own_n q3.lt
    obtain ⟨G_cs, G_zc, G_fm, isref_fm, G_assertionsDisabled, G_HI_BYTE_SHIFT, G_LO_BYTE_SHIFT⟩ := id G
    have hr2 : ¬ cs.getD i 0 < 0 ∧ ¬ 255 < cs.getD i 0 := ⟨hr.1, own_lat_rng hf hi⟩
    refine k_aloadN X0 d_jdk_42_56_0 rfl rfl (pc' := 1) rfl ?_
    refine k_callVVF X0 (y := (⟨"java/lang/String", "isLatin1", "()Z"⟩ : MethodName)) d_jdk_42_56_1 (w_117 hw) (w_118 hw) (w_120 hw) (w_119 hw) (w_12 hw) (w_121 hw) (by decide) (notFace_of_selects (args := #[]) (mvT X0.hZ (w_120 hw))) q0 (argsL := []) (rest := []) (own_isLat0 l Z a0 hw G n0 h0 X0.old a q2) rfl pd_13 rfl rfl (by decide) (W := 0) (Nat.le_of_eq rfl) (by decide) (by decide) (by decide) all0 (pc' := 4) rfl ?_
    rintro _ T154 h154 L154 X154 K154 ⟨rfl, -⟩
    have sz_h154 := K154.1
    have K0_h154 : Keep h0 h154 [] := K0_h0.trans K154 all0
    refine k_ifNo X154 d_jdk_42_56_4 (by decide) (pc' := 7) rfl ?_
    refine k_aloadN X154 d_jdk_42_56_7 rfl rfl (pc' := 8) rfl ?_
    have c156 := (q1.keep K154 nin0)
    refine k_getF X154 d_jdk_42_56_8 (host := "") (Or.inl (w_30 hw)) Via.refl c156 (pc' := 11) rfl fun T157 X158 => ?_
    refine k_iloadN X158 d_jdk_42_56_11 rfl (pc' := 12) rfl ?_
    have c159 := (q3.keep K154 nin0)
    refine k_callSVF X158 (y := (⟨"java/lang/StringLatin1", "charAt", "([BI)C"⟩ : MethodName)) d_jdk_42_56_12 (w_152 hw) (w_153 hw) (w_67 hw) (w_154 hw) (by decide) (argsL := [(.ref t), (.int (Int32.ofNat i))]) (rest := []) (own_lcharAt l Z a0 hw G n0 h154 X158.old t kt (Int32.ofNat cs.length) cs i (Int32.ofNat i) rfl hi rfl (by omega) hr2 c159) rfl pd_6 rfl rfl (by decide) (W := 0) (Nat.le_of_eq rfl) (by decide) (by decide) (by decide) all0 (pc' := 15) rfl ?_
    rintro _ T160 h160 L160 X160 K160 ⟨rfl, -⟩
    have sz_h160 := K160.1
    have K0_h160 : Keep h0 h160 [] := K0_h154.trans K160 all0
    exact k_retFN X160 (w := (cs.getD i 0)) d_jdk_42_56_15 (t := .char) rfl (by simp) (own_i2c_id hr.1 hr.2) K0_h160 ⟨_, rfl, rfl, trivial⟩ (by decide) (by decide)
  · refine metF (plainFor_of_name pn_1) O0 (Ls := #[.val (.ref a), .val (.int (Int32.ofNat i))]) (fun m => by first | rfl | (simp [entryFrame, mkF, argsToLocals, Value.category]; done)) ?_
    intro p e s m below meth c T0 X0
    have K0_h0 := Keep.refl h0 []
    have n0le := X0.n0le
    have ltq0 := own_n q0.lt
    have ltq1 := own_n q1.lt
    have ltq2 := own_n q2.lt
    have ltq3 := own_n q3.lt
    obtain ⟨G_cs, G_zc, G_fm, isref_fm, G_assertionsDisabled, G_HI_BYTE_SHIFT, G_LO_BYTE_SHIFT⟩ := id G
    refine k_aloadN X0 d_jdk_42_56_0 rfl rfl (pc' := 1) rfl ?_
    refine k_callVVF X0 (y := (⟨"java/lang/String", "isLatin1", "()Z"⟩ : MethodName)) d_jdk_42_56_1 (w_117 hw) (w_118 hw) (w_120 hw) (w_119 hw) (w_12 hw) (w_121 hw) (by decide) (notFace_of_selects (args := #[]) (mvT X0.hZ (w_120 hw))) q0 (argsL := []) (rest := []) (own_isLat1 l Z a0 hw G n0 h0 X0.old a q2) rfl pd_13 rfl rfl (by decide) (W := 0) (Nat.le_of_eq rfl) (by decide) (by decide) (by decide) all0 (pc' := 4) rfl ?_
    rintro _ T162 h162 L162 X162 K162 ⟨rfl, -⟩
    have sz_h162 := K162.1
    have K0_h162 : Keep h0 h162 [] := K0_h0.trans K162 all0
    refine k_ifYes X162 d_jdk_42_56_4 (by decide) (pc' := 16) (by decide) (by decide) ?_
    refine k_aloadN X162 d_jdk_42_56_16 rfl rfl (pc' := 17) rfl ?_
    have c164 := (q1.keep K162 nin0)
    refine k_getF X162 d_jdk_42_56_17 (host := "") (Or.inl (w_30 hw)) Via.refl c164 (pc' := 20) rfl fun T165 X166 => ?_
    refine k_iloadN X166 d_jdk_42_56_20 rfl (pc' := 21) rfl ?_
    have c167 := (q3.keep K162 nin0)
    refine k_callSVF X166 (y := (⟨"java/lang/StringUTF16", "charAt", "([BI)C"⟩ : MethodName)) d_jdk_42_56_21 (w_122 hw) (w_123 hw) (w_78 hw) (w_124 hw) (by decide) (argsL := [(.ref t), (.int (Int32.ofNat i))]) (rest := []) (own_ucharAt l Z a0 hw G n0 h162 X166.old t kt cs i (Int32.ofNat i) rfl hi (by omega) hr c167) rfl pd_6 rfl rfl (by decide) (W := 0) (Nat.le_of_eq rfl) (by decide) (by decide) (by decide) all0 (pc' := 24) rfl ?_
    rintro _ T168 h168 L168 X168 K168 ⟨rfl, -⟩
    have sz_h168 := K168.1
    have K0_h168 : Keep h0 h168 [] := K0_h162.trans K168 all0
    exact k_retFN X168 (w := (cs.getD i 0)) d_jdk_42_56_24 (t := .char) rfl (by simp) (own_i2c_id hr.1 hr.2) K0_h168 ⟨_, rfl, rfl, trivial⟩ (by decide) (by decide)
set_option maxRecDepth 65536 in
set_option maxHeartbeats 40000000 in
theorem own_initBB0 (l : Launch) (Z : State) (a0 : Array Value) (hw : ∀ d ∈ tables_1, d.before a0 Z = true) {zc : Int32} {fm : Value}  (G : Gl Z zc fm) (n0 : Nat) (h0 : Heap) (O0 : Old Z n0 h0) (a : Nat) (t : Nat) (gw0 : n0 ≤ a) (q0 : Exa Z h0 a "java/lang/String") (q1 : Fld Z h0 a "java/lang/String" "value" "[B" .null) (q2 : Fld Z h0 a "java/lang/String" "coder" "B" (.int (0 : Int32))) :
    MetF l [] Z n0 (⟨"java/lang/String", "<init>", "([BB)V"⟩ : MethodName) jdk_42_method_151_code 3 (Option.none : Option FieldType) ({ frames := 1, cells := 0, slots := 0, locals := 12 } : Room) #[(.ref a), (.ref t), (.int (0 : Int32))] h0 [a] (fun r h' => r = none ∧ (Exa Z h' a "java/lang/String") ∧ (Fld Z h' a "java/lang/String" "value" "[B" (.ref t)) ∧ (Fld Z h' a "java/lang/String" "coder" "B" (.int (0 : Int32)))) := by
  refine metF (plainFor_of_name pn_1) O0 (Ls := #[.val (.ref a), .val (.ref t), .val (.int (0 : Int32))]) (fun m => by first | rfl | (simp [entryFrame, mkF, argsToLocals, Value.category]; done)) ?_
  intro p e s m below meth c T0 X0
  have K0_h0 := Keep.refl h0 [a]
  have n0le := X0.n0le
  have ltq0 := own_n q0.lt
  have ltq1 := own_n q1.lt
  have ltq2 := own_n q2.lt
  obtain ⟨G_cs, G_zc, G_fm, isref_fm, G_assertionsDisabled, G_HI_BYTE_SHIFT, G_LO_BYTE_SHIFT⟩ := id G
  refine k_aloadN X0 d_jdk_42_151_0 rfl rfl (pc' := 1) rfl ?_
  refine k_initO X0 d_jdk_42_151_1 (w_21 hw) (w_22 hw) (w_23 hw) rfl (by decide) (W := 0) (Nat.le_of_eq rfl) (by decide) (pc' := 4) rfl fun T170 X171 => ?_
  refine k_aloadN X171 d_jdk_42_151_4 rfl rfl (pc' := 5) rfl ?_
  refine k_aloadN X171 d_jdk_42_151_5 rfl rfl (pc' := 6) rfl ?_
  have ge173 : n0 ≤ a := by omega
  refine k_putF X171 d_jdk_42_151_6 (host := "") (Or.inl (w_30 hw)) Via.refl q1 q0 (Or.inr ⟨(w_26 hw), rfl, X171.hnm⟩) (w_11 hw) (ty := (.array .byte)) (by decide) rfl rfl trivial ge173 (pc' := 9) rfl fun T172 h172 L172 X172 W172 K172 => ?_
  have sz_h172 := K172.1
  have K0_h172 : Keep h0 h172 [a] := K0_h0.trans K172 (allS (Or.inl (List.mem_of_getElem? (i := 0) rfl)) all0)
  have F172 := q1.same W172
  refine k_aloadN X172 d_jdk_42_151_9 rfl rfl (pc' := 10) rfl ?_
  refine k_iloadN X172 d_jdk_42_151_10 rfl (pc' := 11) rfl ?_
  have c174 := (q2.other W172 (Or.inr (slot_ne (Or.inr (w_27 hw)) (Or.inr (w_26 hw)) (by decide) (t := .byte) (t' := (.array .byte)) (by decide) (by decide))))
  have c175 := (q0.keep K172)
  have ge177 : n0 ≤ a := by omega
  refine k_putF X172 d_jdk_42_151_11 (host := "") (Or.inl (w_31 hw)) Via.refl c174 c175 (Or.inr ⟨(w_27 hw), rfl, X172.hnm⟩) (w_11 hw) (ty := .byte) (by decide) rfl rfl trivial ge177 (pc' := 14) rfl fun T176 h176 L176 X176 W176 K176 => ?_
  have sz_h176 := K176.1
  have K0_h176 : Keep h0 h176 [a] := K0_h172.trans K176 (allS (Or.inl (List.mem_of_getElem? (i := 0) rfl)) all0)
  have F176 := c174.same W176
  have c178 := (c175.keep K176)
  have c179 := (F172.other W176 (Or.inr (slot_ne (Or.inr (w_26 hw)) (Or.inr (w_27 hw)) (by decide) (t := (.array .byte)) (t' := .byte) (by decide) (by decide))))
  exact k_retFV X176 d_jdk_42_151_14 rfl K0_h176 ⟨rfl, c178, c179, F176⟩ (by decide) (by decide)
set_option maxRecDepth 65536 in
set_option maxHeartbeats 40000000 in
theorem own_initBB1 (l : Launch) (Z : State) (a0 : Array Value) (hw : ∀ d ∈ tables_1, d.before a0 Z = true) {zc : Int32} {fm : Value}  (G : Gl Z zc fm) (n0 : Nat) (h0 : Heap) (O0 : Old Z n0 h0) (a : Nat) (t : Nat) (gw0 : n0 ≤ a) (q0 : Exa Z h0 a "java/lang/String") (q1 : Fld Z h0 a "java/lang/String" "value" "[B" .null) (q2 : Fld Z h0 a "java/lang/String" "coder" "B" (.int (0 : Int32))) :
    MetF l [] Z n0 (⟨"java/lang/String", "<init>", "([BB)V"⟩ : MethodName) jdk_42_method_151_code 3 (Option.none : Option FieldType) ({ frames := 1, cells := 0, slots := 0, locals := 12 } : Room) #[(.ref a), (.ref t), (.int (1 : Int32))] h0 [a] (fun r h' => r = none ∧ (Exa Z h' a "java/lang/String") ∧ (Fld Z h' a "java/lang/String" "value" "[B" (.ref t)) ∧ (Fld Z h' a "java/lang/String" "coder" "B" (.int (1 : Int32)))) := by
  refine metF (plainFor_of_name pn_1) O0 (Ls := #[.val (.ref a), .val (.ref t), .val (.int (1 : Int32))]) (fun m => by first | rfl | (simp [entryFrame, mkF, argsToLocals, Value.category]; done)) ?_
  intro p e s m below meth c T0 X0
  have K0_h0 := Keep.refl h0 [a]
  have n0le := X0.n0le
  have ltq0 := own_n q0.lt
  have ltq1 := own_n q1.lt
  have ltq2 := own_n q2.lt
  obtain ⟨G_cs, G_zc, G_fm, isref_fm, G_assertionsDisabled, G_HI_BYTE_SHIFT, G_LO_BYTE_SHIFT⟩ := id G
  refine k_aloadN X0 d_jdk_42_151_0 rfl rfl (pc' := 1) rfl ?_
  refine k_initO X0 d_jdk_42_151_1 (w_21 hw) (w_22 hw) (w_23 hw) rfl (by decide) (W := 0) (Nat.le_of_eq rfl) (by decide) (pc' := 4) rfl fun T180 X181 => ?_
  refine k_aloadN X181 d_jdk_42_151_4 rfl rfl (pc' := 5) rfl ?_
  refine k_aloadN X181 d_jdk_42_151_5 rfl rfl (pc' := 6) rfl ?_
  have ge183 : n0 ≤ a := by omega
  refine k_putF X181 d_jdk_42_151_6 (host := "") (Or.inl (w_30 hw)) Via.refl q1 q0 (Or.inr ⟨(w_26 hw), rfl, X181.hnm⟩) (w_11 hw) (ty := (.array .byte)) (by decide) rfl rfl trivial ge183 (pc' := 9) rfl fun T182 h182 L182 X182 W182 K182 => ?_
  have sz_h182 := K182.1
  have K0_h182 : Keep h0 h182 [a] := K0_h0.trans K182 (allS (Or.inl (List.mem_of_getElem? (i := 0) rfl)) all0)
  have F182 := q1.same W182
  refine k_aloadN X182 d_jdk_42_151_9 rfl rfl (pc' := 10) rfl ?_
  refine k_iloadN X182 d_jdk_42_151_10 rfl (pc' := 11) rfl ?_
  have c184 := (q2.other W182 (Or.inr (slot_ne (Or.inr (w_27 hw)) (Or.inr (w_26 hw)) (by decide) (t := .byte) (t' := (.array .byte)) (by decide) (by decide))))
  have c185 := (q0.keep K182)
  have ge187 : n0 ≤ a := by omega
  refine k_putF X182 d_jdk_42_151_11 (host := "") (Or.inl (w_31 hw)) Via.refl c184 c185 (Or.inr ⟨(w_27 hw), rfl, X182.hnm⟩) (w_11 hw) (ty := .byte) (by decide) rfl rfl trivial ge187 (pc' := 14) rfl fun T186 h186 L186 X186 W186 K186 => ?_
  have sz_h186 := K186.1
  have K0_h186 : Keep h0 h186 [a] := K0_h182.trans K186 (allS (Or.inl (List.mem_of_getElem? (i := 0) rfl)) all0)
  have F186 := c184.same W186
  have c188 := (c185.keep K186)
  have c189 := (F182.other W186 (Or.inr (slot_ne (Or.inr (w_26 hw)) (Or.inr (w_27 hw)) (by decide) (t := (.array .byte)) (t' := .byte) (by decide) (by decide))))
  exact k_retFV X186 d_jdk_42_151_14 rfl K0_h186 ⟨rfl, c188, c189, F186⟩ (by decide) (by decide)
set_option maxRecDepth 65536 in
set_option maxHeartbeats 40000000 in
theorem own_canE1 (l : Launch) (Z : State) (a0 : Array Value) (hw : ∀ d ∈ tables_1, d.before a0 Z = true) {zc : Int32} {fm : Value}  (G : Gl Z zc fm) (n0 : Nat) (h0 : Heap) (O0 : Old Z n0 h0) (c0 : Int32) (hc : ¬ 255 < c0)   :
    MetF l [] Z n0 (⟨"java/lang/StringLatin1", "canEncode", "(C)Z"⟩ : MethodName) jdk_43_method_3_code 1 (Option.some FieldType.boolean) ({ frames := 0, cells := 0, slots := 0, locals := 0 } : Room) #[(.int c0)] h0 [] (fun r h' => ∃ w, r = some w ∧ w = (.int (1 : Int32)) ∧ True) := by
  refine metF (plainFor_of_name pn_3) O0 (Ls := #[.val (.int c0)]) (fun m => by first | rfl | (simp [entryFrame, mkF, argsToLocals, Value.category]; done)) ?_
  intro p e s m below meth c T0 X0
  have K0_h0 := Keep.refl h0 []
  have n0le := X0.n0le
  obtain ⟨G_cs, G_zc, G_fm, isref_fm, G_assertionsDisabled, G_HI_BYTE_SHIFT, G_LO_BYTE_SHIFT⟩ := id G
  refine k_iloadN X0 d_jdk_43_3_0 rfl (pc' := 1) rfl ?_
  refine k_sipush X0 d_jdk_43_3_1 (w := (255 : Int32)) rfl (pc' := 4) rfl ?_
  refine k_icmpNo X0 d_jdk_43_3_4 (flt hc).2.2.1 (pc' := 7) rfl ?_
  refine k_iconst X0 d_jdk_43_3_7 (w := (1 : Int32)) rfl (pc' := 8) rfl ?_
  refine k_goto X0 d_jdk_43_3_8 (pc' := 12) (by decide) (by decide) ?_
  exact k_retFN X0 (w := (1 : Int32)) d_jdk_43_3_12 (t := .boolean) rfl (by simp) rfl K0_h0 ⟨_, rfl, rfl, trivial⟩ (by decide) (by decide)
set_option maxRecDepth 65536 in
set_option maxHeartbeats 40000000 in
theorem own_canE0 (l : Launch) (Z : State) (a0 : Array Value) (hw : ∀ d ∈ tables_1, d.before a0 Z = true) {zc : Int32} {fm : Value}  (G : Gl Z zc fm) (n0 : Nat) (h0 : Heap) (O0 : Old Z n0 h0) (c0 : Int32) (hcU : 255 < c0)   :
    MetF l [] Z n0 (⟨"java/lang/StringLatin1", "canEncode", "(C)Z"⟩ : MethodName) jdk_43_method_3_code 1 (Option.some FieldType.boolean) ({ frames := 0, cells := 0, slots := 0, locals := 0 } : Room) #[(.int c0)] h0 [] (fun r h' => ∃ w, r = some w ∧ w = (.int (0 : Int32)) ∧ True) := by
  refine metF (plainFor_of_name pn_3) O0 (Ls := #[.val (.int c0)]) (fun m => by first | rfl | (simp [entryFrame, mkF, argsToLocals, Value.category]; done)) ?_
  intro p e s m below meth c T0 X0
  have K0_h0 := Keep.refl h0 []
  have n0le := X0.n0le
  obtain ⟨G_cs, G_zc, G_fm, isref_fm, G_assertionsDisabled, G_HI_BYTE_SHIFT, G_LO_BYTE_SHIFT⟩ := id G
  refine k_iloadN X0 d_jdk_43_3_0 rfl (pc' := 1) rfl ?_
  refine k_sipush X0 d_jdk_43_3_1 (w := (255 : Int32)) rfl (pc' := 4) rfl ?_
  refine k_icmpYes X0 d_jdk_43_3_4 (tlt hcU).2.2.1 (pc' := 11) (by decide) (by decide) ?_
  refine k_iconst X0 d_jdk_43_3_11 (w := (0 : Int32)) rfl (pc' := 12) rfl ?_
  exact k_retFN X0 (w := (0 : Int32)) d_jdk_43_3_12 (t := .boolean) rfl (by simp) rfl K0_h0 ⟨_, rfl, rfl, trivial⟩ (by decide) (by decide)
set_option maxRecDepth 65536 in
set_option maxHeartbeats 40000000 in
theorem own_toBL (l : Launch) (Z : State) (a0 : Array Value) (hw : ∀ d ∈ tables_1, d.before a0 Z = true) {zc : Int32} {fm : Value}  (G : Gl Z zc fm) (n0 : Nat) (h0 : Heap) (O0 : Old Z n0 h0) (c0 : Int32)   :
    MetF l [] Z n0 (⟨"java/lang/StringLatin1", "toBytes", "(C)[B"⟩ : MethodName) jdk_43_method_46_code 1 (Option.some (FieldType.array FieldType.byte)) ({ frames := 0, cells := 1, slots := 1, locals := 0 } : Room) #[(.int c0)] h0 [] (fun r h' => ∃ w, r = some w ∧ ∃ (t : Nat), ∃ (kt : ClassId), w = (.ref t) ∧ (Arv Z h' t kt .byte (1 : Int32) (own_lat [c0]) (.int (0 : Int32))) ∧ (h0.size ≤ t)) := by
  refine metF (plainFor_of_name pn_3) O0 (Ls := #[.val (.int c0)]) (fun m => by first | rfl | (simp [entryFrame, mkF, argsToLocals, Value.category]; done)) ?_
  intro p e s m below meth c T0 X0
  have K0_h0 := Keep.refl h0 []
  have n0le := X0.n0le
  obtain ⟨G_cs, G_zc, G_fm, isref_fm, G_assertionsDisabled, G_HI_BYTE_SHIFT, G_LO_BYTE_SHIFT⟩ := id G
  refine k_iconst X0 d_jdk_43_46_0 (w := (1 : Int32)) rfl (pc' := 1) rfl ?_
  refine k_newP X0 d_jdk_43_46_1 (w_25 hw) (by decide) (cap := 1) (by decide) (by decide) (by decide) (by decide) (pc' := 3) rfl fun T190 h190 b190 k190 g190 X190 K190 V190 S190 lt190 ge190 => ?_
  have sz_h190 := K190.1
  have K0_h190 : Keep h0 h190 [] := K0_h0.trans K190 all0
  have V190' : Arv Z h190 b190 k190 .byte (1 : Int32) [(.int (0 : Int32))] (.int (0 : Int32)) := Arv.pad V190 (pad_rep [] (.int (0 : Int32)) 1)
  refine k_dup X190 d_jdk_43_46_3 rfl (pc' := 4) rfl ?_
  refine k_iconst X190 d_jdk_43_46_4 (w := (0 : Int32)) rfl (pc' := 5) rfl ?_
  refine k_iloadN X190 d_jdk_43_46_5 rfl (pc' := 6) rfl ?_
  refine k_i2b X190 d_jdk_43_46_6 (w := (c0.toInt8.toInt32)) rfl (pc' := 7) rfl ?_
  have ge192 : n0 ≤ b190 := by omega
  refine k_bastore X190 (w := (c0.toInt8.toInt32)) (0) d_jdk_43_46_7 V190' (by decide) (by decide) rfl (by decide) (own_i2b _) (vs' := (own_lat [c0])) rfl trivial ge192 (pc' := 8) rfl fun T191 h191 L191 X191 K191 V191 => ?_
  have sz_h191 := K191.1
  have K0_h191 : Keep h0 h191 [] := K0_h190.trans K191 (allS (Or.inr (by omega)) all0)
  exact k_retFA X191 d_jdk_43_46_8 rfl rfl rfl rfl K0_h191 ⟨_, rfl, _, _, rfl, V191, by omega⟩ (by decide) (by decide)
set_option maxRecDepth 65536 in
set_option maxHeartbeats 40000000 in
theorem own_toBU (l : Launch) (Z : State) (a0 : Array Value) (hw : ∀ d ∈ tables_1, d.before a0 Z = true) {zc : Int32} {fm : Value}  (G : Gl Z zc fm) (n0 : Nat) (h0 : Heap) (O0 : Old Z n0 h0) (c0 : Int32)   :
    MetF l [] Z n0 (⟨"java/lang/StringUTF16", "toBytes", "(C)[B"⟩ : MethodName) jdk_52_method_24_code 2 (Option.some (FieldType.array FieldType.byte)) ({ frames := 1, cells := 1, slots := 2, locals := 14 } : Room) #[(.int c0)] h0 [] (fun r h' => ∃ w, r = some w ∧ ∃ (t : Nat), ∃ (kt : ClassId), w = (.ref t) ∧ (Arv Z h' t kt .byte (2 : Int32) (own_u16 [c0]) (.int (0 : Int32))) ∧ (h0.size ≤ t)) := by
  refine metF (plainFor_of_name pn_0) O0 (Ls := #[.val (.int c0), .unset]) (fun m => by first | rfl | (simp [entryFrame, mkF, argsToLocals, Value.category]; done)) ?_
  intro p e s m below meth c T0 X0
  have K0_h0 := Keep.refl h0 []
  have n0le := X0.n0le
  obtain ⟨G_cs, G_zc, G_fm, isref_fm, G_assertionsDisabled, G_HI_BYTE_SHIFT, G_LO_BYTE_SHIFT⟩ := id G
  refine k_iconst X0 d_jdk_52_24_0 (w := (2 : Int32)) rfl (pc' := 1) rfl ?_
  refine k_newP X0 d_jdk_52_24_1 (w_25 hw) (by decide) (cap := 2) (by decide) (by decide) (by decide) (by decide) (pc' := 3) rfl fun T193 h193 b193 k193 g193 X193 K193 V193 S193 lt193 ge193 => ?_
  have sz_h193 := K193.1
  have K0_h193 : Keep h0 h193 [] := K0_h0.trans K193 all0
  have V193' : Arv Z h193 b193 k193 .byte (2 : Int32) [(.int (0 : Int32)), (.int (0 : Int32))] (.int (0 : Int32)) := Arv.pad V193 (pad_rep [] (.int (0 : Int32)) 2)
  refine k_astoreN X193 d_jdk_52_24_3 rfl (Ls' := #[.val (.int c0), .val (.ref b193)]) rfl (pc' := 4) rfl ?_
  refine k_aloadN X193 d_jdk_52_24_4 rfl rfl (pc' := 5) rfl ?_
  refine k_iconst X193 d_jdk_52_24_5 (w := (0 : Int32)) rfl (pc' := 6) rfl ?_
  refine k_iloadN X193 d_jdk_52_24_6 rfl (pc' := 7) rfl ?_
  have ge194 : n0 ≤ b193 := by omega
  refine k_callSNF X193 (y := (⟨"java/lang/StringUTF16", "putChar", "([BII)V"⟩ : MethodName)) d_jdk_52_24_7 (w_103 hw) (w_104 hw) (w_78 hw) (w_105 hw) (by decide) (argsL := [(.ref b193), (.int (Int32.ofNat 0)), (.int c0)]) (rest := []) (own_putC l Z a0 hw G n0 h193 X193.old b193 k193 (2 : Int32) [(.int (0 : Int32)), (.int (0 : Int32))] 0 c0 (by decide) rfl (by decide) (by omega) V193') rfl pd_5 rfl rfl (by decide) (W := 0) (Nat.le_of_eq rfl) (by decide) (by decide) (by decide) (allS ⟨trivial, ge194⟩ all0) (pc' := 10) rfl ?_
  rintro T195 h195 L195 X195 K195 q195_0
  have sz_h195 := K195.1
  have K0_h195 : Keep h0 h195 [] := K0_h193.trans K195 (allS (Or.inr (by omega)) all0)
  have lt195_0 := own_n q195_0.lt
  refine k_aloadN X195 d_jdk_52_24_10 rfl rfl (pc' := 11) rfl ?_
  exact k_retFA X195 d_jdk_52_24_11 rfl rfl rfl rfl K0_h195 ⟨_, rfl, _, _, rfl, q195_0, by omega⟩ (by decide) (by decide)
set_option maxRecDepth 65536 in
set_option maxHeartbeats 40000000 in
theorem own_vocL (l : Launch) (Z : State) (a0 : Array Value) (hw : ∀ d ∈ tables_1, d.before a0 Z = true) {zc : Int32} {fm : Value}  (G : Gl Z zc fm) (n0 : Nat) (h0 : Heap) (O0 : Old Z n0 h0) (c0 : Int32) (hc : ¬ 255 < c0)   :
    MetF l [] Z n0 (⟨"java/lang/String", "valueOf", "(C)Ljava/lang/String;"⟩ : MethodName) jdk_42_method_139_code 1 (Option.some (FieldType.object "java/lang/String")) ({ frames := 2, cells := 2, slots := 5, locals := 27 } : Room) #[(.int c0)] h0 [] (fun r h' => ∃ w, r = some w ∧ ∃ (r : Nat), ∃ (t : Nat), ∃ (kt : ClassId), w = (.ref r) ∧ (Exa Z h' r "java/lang/String") ∧ (Fld Z h' r "java/lang/String" "value" "[B" (.ref t)) ∧ (Fld Z h' r "java/lang/String" "coder" "B" (.int (0 : Int32))) ∧ (Arv Z h' t kt .byte (1 : Int32) (own_lat [c0]) (.int (0 : Int32))) ∧ (h0.size ≤ r) ∧ (h0.size ≤ t)) := by
  refine metF (plainFor_of_name pn_1) O0 (Ls := #[.val (.int c0)]) (fun m => by first | rfl | (simp [entryFrame, mkF, argsToLocals, Value.category]; done)) ?_
  intro p e s m below meth c T0 X0
  have K0_h0 := Keep.refl h0 []
  have n0le := X0.n0le
  obtain ⟨G_cs, G_zc, G_fm, isref_fm, G_assertionsDisabled, G_HI_BYTE_SHIFT, G_LO_BYTE_SHIFT⟩ := id G
  refine k_getS X0 d_jdk_42_139_0 (host := "") (Or.inl (w_49 hw)) Via.refl (G_cs.ext X0.old.2) (pc' := 3) rfl fun T196 X197 => ?_
  refine k_ifNo X197 d_jdk_42_139_3 ((if0 _ _).trans (feq G_zc).1) (pc' := 6) rfl ?_
  refine k_iloadN X197 d_jdk_42_139_6 rfl (pc' := 7) rfl ?_
  refine k_callSVF X197 (y := (⟨"java/lang/StringLatin1", "canEncode", "(C)Z"⟩ : MethodName)) d_jdk_42_139_7 (w_65 hw) (w_66 hw) (w_67 hw) (w_68 hw) (by decide) (argsL := [(.int c0)]) (rest := []) (own_canE1 l Z a0 hw G n0 h0 X197.old c0 hc ) rfl pd_14 rfl rfl (by decide) (W := 0) (Nat.le_of_eq rfl) (by decide) (by decide) (by decide) all0 (pc' := 10) rfl ?_
  rintro _ T198 h198 L198 X198 K198 ⟨rfl, -⟩
  have sz_h198 := K198.1
  have K0_h198 : Keep h0 h198 [] := K0_h0.trans K198 all0
  refine k_ifNo X198 d_jdk_42_139_10 (by decide) (pc' := 13) rfl ?_
  refine k_newO X198 d_jdk_42_139_13 (w_69 hw) (w_11 hw) (w_12 hw) (by decide) (by decide) (pc' := 16) rfl fun T200 h200 b200 g200 X200 K200 E200 D200 S200 lt200 ge200 => ?_
  have sz_h200 := K200.1
  have K0_h200 : Keep h0 h200 [] := K0_h198.trans K200 all0
  have Fn200_value : Fld Z h200 b200 "java/lang/String" "value" "[B" .null := D200 (Or.inr (w_26 hw)) (ty := (.array .byte)) (by decide)
  have Fn200_coder : Fld Z h200 b200 "java/lang/String" "coder" "B" (.int (0 : Int32)) := D200 (Or.inr (w_27 hw)) (ty := .byte) (by decide)
  refine k_dup X200 d_jdk_42_139_16 rfl (pc' := 17) rfl ?_
  refine k_iloadN X200 d_jdk_42_139_17 rfl (pc' := 18) rfl ?_
  refine k_callSVF X200 (y := (⟨"java/lang/StringLatin1", "toBytes", "(C)[B"⟩ : MethodName)) d_jdk_42_139_18 (w_70 hw) (w_71 hw) (w_67 hw) (w_72 hw) (by decide) (argsL := [(.int c0)]) (rest := [(.ref b200), (.ref b200)]) (own_toBL l Z a0 hw G n0 h200 X200.old c0 ) rfl pd_15 rfl rfl (by decide) (W := 2) (Nat.le_of_eq rfl) (by decide) (by decide) (by decide) all0 (pc' := 21) rfl ?_
  rintro _ T203 h203 L203 X203 K203 ⟨t_201, kt_202, rfl, q203_0, q203_1⟩
  have sz_h203 := K203.1
  have K0_h203 : Keep h0 h203 [] := K0_h200.trans K203 all0
  have lt203_0 := own_n q203_0.lt
  refine k_iconst X203 d_jdk_42_139_21 (w := (0 : Int32)) rfl (pc' := 22) rfl ?_
  have c205 := (E200.keep K203)
  have c206 := (Fn200_value.keep K203 nin0)
  have c207 := (Fn200_coder.keep K203 nin0)
  have ge208 : n0 ≤ b200 := by omega
  refine k_callPNF X203 (y := (⟨"java/lang/String", "<init>", "([BB)V"⟩ : MethodName)) d_jdk_42_139_22 (w_73 hw) (w_74 hw) (w_12 hw) (w_75 hw) (by decide) rfl rfl (argsL := [(.ref t_201), (.int (0 : Int32))]) (rest := [(.ref b200)]) (own_initBB0 l Z a0 hw G n0 h203 X203.old b200 t_201 (by omega) c205 c206 c207) rfl pd_16 rfl rfl (by decide) (W := 1) (Nat.le_of_eq rfl) (by decide) (by decide) (by decide) (allS ⟨trivial, ge208⟩ all0) (pc' := 25) rfl ?_
  rintro T209 h209 L209 X209 K209 ⟨q209_0, q209_1, q209_2⟩
  have sz_h209 := K209.1
  have K0_h209 : Keep h0 h209 [] := K0_h203.trans K209 (allS (Or.inr (by omega)) all0)
  have lt209_0 := own_n q209_0.lt
  have lt209_1 := own_n q209_1.lt
  have lt209_2 := own_n q209_2.lt
  have c210 := (q203_0.keep K209 (ninS (own_ne (by omega) : t_201 ≠ b200) nin0))
  exact k_retFA X209 d_jdk_42_139_25 rfl rfl rfl rfl K0_h209 ⟨_, rfl, _, _, _, rfl, q209_0, q209_1, q209_2, c210, by omega, by omega⟩ (by decide) (by decide)
set_option maxRecDepth 65536 in
set_option maxHeartbeats 40000000 in
theorem own_vocU (l : Launch) (Z : State) (a0 : Array Value) (hw : ∀ d ∈ tables_1, d.before a0 Z = true) {zc : Int32} {fm : Value}  (G : Gl Z zc fm) (n0 : Nat) (h0 : Heap) (O0 : Old Z n0 h0) (c0 : Int32) (hcU : 255 < c0)   :
    MetF l [] Z n0 (⟨"java/lang/String", "valueOf", "(C)Ljava/lang/String;"⟩ : MethodName) jdk_42_method_139_code 1 (Option.some (FieldType.object "java/lang/String")) ({ frames := 2, cells := 2, slots := 6, locals := 29 } : Room) #[(.int c0)] h0 [] (fun r h' => ∃ w, r = some w ∧ ∃ (r : Nat), ∃ (t : Nat), ∃ (kt : ClassId), w = (.ref r) ∧ (Exa Z h' r "java/lang/String") ∧ (Fld Z h' r "java/lang/String" "value" "[B" (.ref t)) ∧ (Fld Z h' r "java/lang/String" "coder" "B" (.int (1 : Int32))) ∧ (Arv Z h' t kt .byte (2 : Int32) (own_u16 [c0]) (.int (0 : Int32))) ∧ (h0.size ≤ r) ∧ (h0.size ≤ t)) := by
  refine metF (plainFor_of_name pn_1) O0 (Ls := #[.val (.int c0)]) (fun m => by first | rfl | (simp [entryFrame, mkF, argsToLocals, Value.category]; done)) ?_
  intro p e s m below meth c T0 X0
  have K0_h0 := Keep.refl h0 []
  have n0le := X0.n0le
  obtain ⟨G_cs, G_zc, G_fm, isref_fm, G_assertionsDisabled, G_HI_BYTE_SHIFT, G_LO_BYTE_SHIFT⟩ := id G
  refine k_getS X0 d_jdk_42_139_0 (host := "") (Or.inl (w_49 hw)) Via.refl (G_cs.ext X0.old.2) (pc' := 3) rfl fun T211 X212 => ?_
  refine k_ifNo X212 d_jdk_42_139_3 ((if0 _ _).trans (feq G_zc).1) (pc' := 6) rfl ?_
  refine k_iloadN X212 d_jdk_42_139_6 rfl (pc' := 7) rfl ?_
  refine k_callSVF X212 (y := (⟨"java/lang/StringLatin1", "canEncode", "(C)Z"⟩ : MethodName)) d_jdk_42_139_7 (w_65 hw) (w_66 hw) (w_67 hw) (w_68 hw) (by decide) (argsL := [(.int c0)]) (rest := []) (own_canE0 l Z a0 hw G n0 h0 X212.old c0 hcU ) rfl pd_14 rfl rfl (by decide) (W := 0) (Nat.le_of_eq rfl) (by decide) (by decide) (by decide) all0 (pc' := 10) rfl ?_
  rintro _ T213 h213 L213 X213 K213 ⟨rfl, -⟩
  have sz_h213 := K213.1
  have K0_h213 : Keep h0 h213 [] := K0_h0.trans K213 all0
  refine k_ifYes X213 d_jdk_42_139_10 (by decide) (pc' := 26) (by decide) (by decide) ?_
  refine k_newO X213 d_jdk_42_139_26 (w_69 hw) (w_11 hw) (w_12 hw) (by decide) (by decide) (pc' := 29) rfl fun T215 h215 b215 g215 X215 K215 E215 D215 S215 lt215 ge215 => ?_
  have sz_h215 := K215.1
  have K0_h215 : Keep h0 h215 [] := K0_h213.trans K215 all0
  have Fn215_value : Fld Z h215 b215 "java/lang/String" "value" "[B" .null := D215 (Or.inr (w_26 hw)) (ty := (.array .byte)) (by decide)
  have Fn215_coder : Fld Z h215 b215 "java/lang/String" "coder" "B" (.int (0 : Int32)) := D215 (Or.inr (w_27 hw)) (ty := .byte) (by decide)
  refine k_dup X215 d_jdk_42_139_29 rfl (pc' := 30) rfl ?_
  refine k_iloadN X215 d_jdk_42_139_30 rfl (pc' := 31) rfl ?_
  refine k_callSVF X215 (y := (⟨"java/lang/StringUTF16", "toBytes", "(C)[B"⟩ : MethodName)) d_jdk_42_139_31 (w_139 hw) (w_140 hw) (w_78 hw) (w_141 hw) (by decide) (argsL := [(.int c0)]) (rest := [(.ref b215), (.ref b215)]) (own_toBU l Z a0 hw G n0 h215 X215.old c0 ) rfl pd_15 rfl rfl (by decide) (W := 2) (Nat.le_of_eq rfl) (by decide) (by decide) (by decide) all0 (pc' := 34) rfl ?_
  rintro _ T218 h218 L218 X218 K218 ⟨t_216, kt_217, rfl, q218_0, q218_1⟩
  have sz_h218 := K218.1
  have K0_h218 : Keep h0 h218 [] := K0_h215.trans K218 all0
  have lt218_0 := own_n q218_0.lt
  refine k_iconst X218 d_jdk_42_139_34 (w := (1 : Int32)) rfl (pc' := 35) rfl ?_
  have c220 := (E215.keep K218)
  have c221 := (Fn215_value.keep K218 nin0)
  have c222 := (Fn215_coder.keep K218 nin0)
  have ge223 : n0 ≤ b215 := by omega
  refine k_callPNF X218 (y := (⟨"java/lang/String", "<init>", "([BB)V"⟩ : MethodName)) d_jdk_42_139_35 (w_73 hw) (w_74 hw) (w_12 hw) (w_75 hw) (by decide) rfl rfl (argsL := [(.ref t_216), (.int (1 : Int32))]) (rest := [(.ref b215)]) (own_initBB1 l Z a0 hw G n0 h218 X218.old b215 t_216 (by omega) c220 c221 c222) rfl pd_16 rfl rfl (by decide) (W := 1) (Nat.le_of_eq rfl) (by decide) (by decide) (by decide) (allS ⟨trivial, ge223⟩ all0) (pc' := 38) rfl ?_
  rintro T224 h224 L224 X224 K224 ⟨q224_0, q224_1, q224_2⟩
  have sz_h224 := K224.1
  have K0_h224 : Keep h0 h224 [] := K0_h218.trans K224 (allS (Or.inr (by omega)) all0)
  have lt224_0 := own_n q224_0.lt
  have lt224_1 := own_n q224_1.lt
  have lt224_2 := own_n q224_2.lt
  have c225 := (q218_0.keep K224 (ninS (own_ne (by omega) : t_216 ≠ b215) nin0))
  exact k_retFA X224 d_jdk_42_139_38 rfl rfl rfl rfl K0_h224 ⟨_, rfl, _, _, _, rfl, q224_0, q224_1, q224_2, c225, by omega, by omega⟩ (by decide) (by decide)
set_option maxRecDepth 65536 in
set_option maxHeartbeats 40000000 in
theorem own_cpc (l : Launch) (Z : State) (a0 : Array Value) (hw : ∀ d ∈ tables_1, d.before a0 Z = true) {zc : Int32} {fm : Value}  (G : Gl Z zc fm) (n0 : Nat) (h0 : Heap) (O0 : Old Z n0 h0) (x : Int32)   :
    MetF l [] Z n0 (⟨"com/example/tuned_odds/tunedodds/retrieval/CodePointOrderComparePinLaw", "cp", "(I)I"⟩ : MethodName) method_3_code 2 (Option.some FieldType.int) ({ frames := 0, cells := 0, slots := 0, locals := 0 } : Room) #[(.int x)] h0 [] (fun r h' => ∃ w, r = some w ∧ ∃ (c0 : Int32), w = (.int c0) ∧ (own_cp c0)) := by
  refine metF (plainFor_of_name pn_4) O0 (Ls := #[.val (.int x), .unset]) (fun m => by first | rfl | (simp [entryFrame, mkF, argsToLocals, Value.category]; done)) ?_
  intro p e s m below meth c T0 X0
  have K0_h0 := Keep.refl h0 []
  have n0le := X0.n0le
  obtain ⟨G_cs, G_zc, G_fm, isref_fm, G_assertionsDisabled, G_HI_BYTE_SHIFT, G_LO_BYTE_SHIFT⟩ := id G
  obtain ⟨y, hy⟩ : ∃ y, ((x &&& (2147483647 : Int32)) - ((x &&& (2147483647 : Int32)) / (1112064 : Int32)) * (1112064 : Int32)) = y := ⟨_, rfl⟩
  have hr := own_cp_rng x
  rw [hy] at hr
  refine k_iloadN X0 d_3_0 rfl (pc' := 1) rfl ?_
  refine k_ldcI X0 d_3_1 (w_4 hw) (pc' := 3) rfl ?_
  refine k_iand X0 d_3_3 (w := (x &&& (2147483647 : Int32))) rfl (pc' := 4) rfl ?_
  refine k_ldcI X0 d_3_4 (w_5 hw) (pc' := 6) rfl ?_
  refine k_irem X0 d_3_6 (by decide) (w := y) hy (pc' := 7) rfl ?_
  refine k_istoreN X0 d_3_7 (Ls' := #[.val (.int x), .val (.int y)]) rfl (pc' := 8) rfl ?_
  refine k_iloadN X0 d_3_8 rfl (pc' := 9) rfl ?_
  refine k_ldcI X0 d_3_9 (w_6 hw) (pc' := 11) rfl ?_
  by_cases hc226 : y < (55296 : Int32)
  · refine k_icmpYes X0 d_3_11 (tlt hc226).1 (pc' := 20) (by decide) (by decide) ?_
    refine k_iloadN X0 d_3_20 rfl (pc' := 21) rfl ?_
    exact k_retFI X0 d_3_21 rfl K0_h0 ⟨_, rfl, _, rfl, own_cp_lo hr hc226⟩ (by decide) (by decide)
  · refine k_icmpNo X0 d_3_11 (flt hc226).1 (pc' := 14) rfl ?_
    refine k_iloadN X0 d_3_14 rfl (pc' := 15) rfl ?_
    refine k_sipush X0 d_3_15 (w := (2048 : Int32)) rfl (pc' := 18) rfl ?_
    refine k_iadd X0 d_3_18 (w := (y + (2048 : Int32))) rfl (pc' := 19) rfl ?_
    refine k_istoreN X0 d_3_19 (Ls' := #[.val (.int x), .val (.int (y + (2048 : Int32)))]) rfl (pc' := 20) rfl ?_
    refine k_iloadN X0 d_3_20 rfl (pc' := 21) rfl ?_
    exact k_retFI X0 d_3_21 rfl K0_h0 ⟨_, rfl, _, rfl, own_cp_hi hr hc226⟩ (by decide) (by decide)
set_option maxRecDepth 65536 in
set_option maxHeartbeats 40000000 in
theorem own_hic (l : Launch) (Z : State) (a0 : Array Value) (hw : ∀ d ∈ tables_1, d.before a0 Z = true) {zc : Int32} {fm : Value}  (G : Gl Z zc fm) (n0 : Nat) (h0 : Heap) (O0 : Old Z n0 h0) (x : Int32)   :
    MetF l [] Z n0 (⟨"com/example/tuned_odds/tunedodds/retrieval/CodePointOrderComparePinLaw", "hi", "(I)C"⟩ : MethodName) method_5_code 1 (Option.some FieldType.char) ({ frames := 0, cells := 0, slots := 0, locals := 0 } : Room) #[(.int x)] h0 [] (fun r h' => ∃ w, r = some w ∧ w = (.int (own_hiC x)) ∧ True) := by
  refine metF (plainFor_of_name pn_4) O0 (Ls := #[.val (.int x)]) (fun m => by first | rfl | (simp [entryFrame, mkF, argsToLocals, Value.category]; done)) ?_
  intro p e s m below meth c T0 X0
  have K0_h0 := Keep.refl h0 []
  have n0le := X0.n0le
  obtain ⟨G_cs, G_zc, G_fm, isref_fm, G_assertionsDisabled, G_HI_BYTE_SHIFT, G_LO_BYTE_SHIFT⟩ := id G
  refine k_ldcI X0 d_5_0 (w_6 hw) (pc' := 2) rfl ?_
  refine k_iloadN X0 d_5_2 rfl (pc' := 3) rfl ?_
  refine k_ldcI X0 d_5_3 (w_61 hw) (pc' := 5) rfl ?_
  refine k_isub X0 d_5_5 (w := (x - (65536 : Int32))) rfl (pc' := 6) rfl ?_
  refine k_bipush X0 d_5_6 (w := (10 : Int32)) rfl (pc' := 8) rfl ?_
  refine k_ishr X0 d_5_8 (w := ((x - (65536 : Int32)) >>> ((10 : Int32) &&& 31))) rfl (pc' := 9) rfl ?_
  refine k_iadd X0 d_5_9 (w := ((55296 : Int32) + ((x - (65536 : Int32)) >>> ((10 : Int32) &&& 31)))) rfl (pc' := 10) rfl ?_
  refine k_i2c X0 d_5_10 (w := (((55296 : Int32) + ((x - (65536 : Int32)) >>> ((10 : Int32) &&& 31))).toUInt32.toUInt16.toUInt32.toInt32)) rfl (pc' := 11) rfl ?_
  exact k_retFN X0 (w := (((55296 : Int32) + ((x - (65536 : Int32)) >>> ((10 : Int32) &&& 31))).toUInt32.toUInt16.toUInt32.toInt32)) d_5_11 (t := .char) rfl (by simp) (own_i2c_id (own_i2c_rng _).1 (own_i2c_rng _).2) K0_h0 ⟨_, rfl, rfl, trivial⟩ (by decide) (by decide)
set_option maxRecDepth 65536 in
set_option maxHeartbeats 40000000 in
theorem own_loc (l : Launch) (Z : State) (a0 : Array Value) (hw : ∀ d ∈ tables_1, d.before a0 Z = true) {zc : Int32} {fm : Value}  (G : Gl Z zc fm) (n0 : Nat) (h0 : Heap) (O0 : Old Z n0 h0) (x : Int32)   :
    MetF l [] Z n0 (⟨"com/example/tuned_odds/tunedodds/retrieval/CodePointOrderComparePinLaw", "lo", "(I)C"⟩ : MethodName) method_6_code 1 (Option.some FieldType.char) ({ frames := 0, cells := 0, slots := 0, locals := 0 } : Room) #[(.int x)] h0 [] (fun r h' => ∃ w, r = some w ∧ w = (.int (own_loC x)) ∧ True) := by
  refine metF (plainFor_of_name pn_4) O0 (Ls := #[.val (.int x)]) (fun m => by first | rfl | (simp [entryFrame, mkF, argsToLocals, Value.category]; done)) ?_
  intro p e s m below meth c T0 X0
  have K0_h0 := Keep.refl h0 []
  have n0le := X0.n0le
  obtain ⟨G_cs, G_zc, G_fm, isref_fm, G_assertionsDisabled, G_HI_BYTE_SHIFT, G_LO_BYTE_SHIFT⟩ := id G
  refine k_ldcI X0 d_6_0 (w_92 hw) (pc' := 2) rfl ?_
  refine k_iloadN X0 d_6_2 rfl (pc' := 3) rfl ?_
  refine k_sipush X0 d_6_3 (w := (1023 : Int32)) rfl (pc' := 6) rfl ?_
  refine k_iand X0 d_6_6 (w := (x &&& (1023 : Int32))) rfl (pc' := 7) rfl ?_
  refine k_iadd X0 d_6_7 (w := ((56320 : Int32) + (x &&& (1023 : Int32)))) rfl (pc' := 8) rfl ?_
  refine k_i2c X0 d_6_8 (w := (((56320 : Int32) + (x &&& (1023 : Int32))).toUInt32.toUInt16.toUInt32.toInt32)) rfl (pc' := 9) rfl ?_
  exact k_retFN X0 (w := (((56320 : Int32) + (x &&& (1023 : Int32))).toUInt32.toUInt16.toUInt32.toInt32)) d_6_9 (t := .char) rfl (by simp) (own_i2c_id (own_i2c_rng _).1 (own_i2c_rng _).2) K0_h0 ⟨_, rfl, rfl, trivial⟩ (by decide) (by decide)
set_option maxRecDepth 65536 in
set_option maxHeartbeats 40000000 in
theorem own_sgnc (l : Launch) (Z : State) (a0 : Array Value) (hw : ∀ d ∈ tables_1, d.before a0 Z = true) {zc : Int32} {fm : Value}  (G : Gl Z zc fm) (n0 : Nat) (h0 : Heap) (O0 : Old Z n0 h0) (x : Int32)   :
    MetF l [] Z n0 (⟨"com/example/tuned_odds/tunedodds/retrieval/CodePointOrderComparePinLaw", "sgn", "(I)I"⟩ : MethodName) method_4_code 1 (Option.some FieldType.int) ({ frames := 0, cells := 0, slots := 0, locals := 0 } : Room) #[(.int x)] h0 [] (fun r h' => ∃ w, r = some w ∧ w = (.int (own_sgn x)) ∧ True) := by
  refine metF (plainFor_of_name pn_4) O0 (Ls := #[.val (.int x)]) (fun m => by first | rfl | (simp [entryFrame, mkF, argsToLocals, Value.category]; done)) ?_
  intro p e s m below meth c T0 X0
  have K0_h0 := Keep.refl h0 []
  have n0le := X0.n0le
  obtain ⟨G_cs, G_zc, G_fm, isref_fm, G_assertionsDisabled, G_HI_BYTE_SHIFT, G_LO_BYTE_SHIFT⟩ := id G
  refine k_iloadN X0 d_4_0 rfl (pc' := 1) rfl ?_
  by_cases hc227 : x < (0 : Int32)
  · have he : own_sgn x = -1 := if_pos hc227
    refine k_ifNo X0 d_4_1 ((if0 _ _).trans (tlt hc227).2.1) (pc' := 4) rfl ?_
    refine k_iconst X0 d_4_4 (w := (-1 : Int32)) rfl (pc' := 5) rfl ?_
    exact k_retFI X0 d_4_5 rfl K0_h0 ⟨_, rfl, by rw [he], trivial⟩ (by decide) (by decide)
  · refine k_ifYes X0 d_4_1 ((if0 _ _).trans (flt hc227).2.1) (pc' := 6) (by decide) (by decide) ?_
    refine k_iloadN X0 d_4_6 rfl (pc' := 7) rfl ?_
    by_cases hc228 : (0 : Int32) < x
    · have he : own_sgn x = 1 := by rw [own_sgn, if_neg hc227, if_pos hc228]
      refine k_ifNo X0 d_4_7 ((if0 _ _).trans (tlt hc228).2.2.2) (pc' := 10) rfl ?_
      refine k_iconst X0 d_4_10 (w := (1 : Int32)) rfl (pc' := 11) rfl ?_
      exact k_retFI X0 d_4_11 rfl K0_h0 ⟨_, rfl, by rw [he], trivial⟩ (by decide) (by decide)
    · have he : own_sgn x = 0 := by rw [own_sgn, if_neg hc227, if_neg hc228]
      refine k_ifYes X0 d_4_7 ((if0 _ _).trans (flt hc228).2.2.2) (pc' := 12) (by decide) (by decide) ?_
      refine k_iconst X0 d_4_12 (w := (0 : Int32)) rfl (pc' := 13) rfl ?_
      exact k_retFI X0 d_4_13 rfl K0_h0 ⟨_, rfl, by rw [he], trivial⟩ (by decide) (by decide)
set_option maxRecDepth 65536 in
set_option maxHeartbeats 40000000 in
theorem own_onec (l : Launch) (Z : State) (a0 : Array Value) (hw : ∀ d ∈ tables_1, d.before a0 Z = true) {zc : Int32} {fm : Value}  (G : Gl Z zc fm) (n0 : Nat) (h0 : Heap) (O0 : Old Z n0 h0) (c0 : Int32) (hcp : own_cp c0)   :
    MetF l [] Z n0 (⟨"com/example/tuned_odds/tunedodds/retrieval/CodePointOrderComparePinLaw", "one", "(I)Ljava/lang/String;"⟩ : MethodName) method_7_code 1 (Option.some (FieldType.object "java/lang/String")) ({ frames := 6, cells := 4, slots := 18, locals := 88 } : Room) #[(.int c0)] h0 [] (fun r h' => ∃ w, r = some w ∧ ∃ (r : Nat), ∃ (t : Nat), ∃ (kt : ClassId), ∃ (cd : Int32), ∃ (zz : Int32), ∃ (bs : List Value), w = (.ref r) ∧ (Exa Z h' r "java/lang/String") ∧ (Fld Z h' r "java/lang/String" "value" "[B" (.ref t)) ∧ (Fld Z h' r "java/lang/String" "coder" "B" (.int cd)) ∧ (Arv Z h' t kt .byte zz bs (.int (0 : Int32))) ∧ (own_cod (own_u c0) cd zz bs) ∧ (h0.size ≤ r)) := by
  refine metF (plainFor_of_name pn_4) O0 (Ls := #[.val (.int c0)]) (fun m => by first | rfl | (simp [entryFrame, mkF, argsToLocals, Value.category]; done)) ?_
  intro p e s m below meth c T0 X0
  have K0_h0 := Keep.refl h0 []
  have n0le := X0.n0le
  obtain ⟨G_cs, G_zc, G_fm, isref_fm, G_assertionsDisabled, G_HI_BYTE_SHIFT, G_LO_BYTE_SHIFT⟩ := id G
  refine k_iloadN X0 d_7_0 rfl (pc' := 1) rfl ?_
  refine k_ldcI X0 d_7_1 (w_61 hw) (pc' := 3) rfl ?_
  by_cases hc229 : c0 < (65536 : Int32)
  · have hu : own_u c0 = [c0] := if_pos hc229
    refine k_icmpNo X0 d_7_3 (tlt hc229).2.1 (pc' := 6) rfl ?_
    refine k_iloadN X0 d_7_6 rfl (pc' := 7) rfl ?_
    refine k_i2c X0 d_7_7 (w := c0) (own_i2c_cp hcp hc229) (pc' := 8) rfl ?_
    by_cases hc230 : (255 : Int32) < c0
    · refine k_callSVF X0 (y := (⟨"java/lang/String", "valueOf", "(C)Ljava/lang/String;"⟩ : MethodName)) d_7_8 (w_62 hw) (w_63 hw) (w_12 hw) (w_64 hw) (by decide) (argsL := [(.int c0)]) (rest := []) (own_vocU l Z a0 hw G n0 h0 X0.old c0 hc230 ) rfl pd_17 rfl rfl (by decide) (W := 0) (Nat.le_of_eq rfl) (by decide) (by decide) (by decide) all0 (pc' := 11) rfl ?_
      rintro _ T234 h234 L234 X234 K234 ⟨r_231, t_232, kt_233, rfl, q234_0, q234_1, q234_2, q234_3, q234_4, q234_5⟩
      have sz_h234 := K234.1
      have K0_h234 : Keep h0 h234 [] := K0_h0.trans K234 all0
      have lt234_0 := own_n q234_0.lt
      have lt234_1 := own_n q234_1.lt
      have lt234_2 := own_n q234_2.lt
      have lt234_3 := own_n q234_3.lt
      exact k_retFA X234 d_7_11 rfl rfl rfl rfl K0_h234 ⟨_, rfl, _, _, _, _, _, _, rfl, q234_0, q234_1, q234_2, q234_3, by rw [hu]; exact own_cod1U hc230, by omega⟩ (by decide) (by decide)
    · refine k_callSVF X0 (y := (⟨"java/lang/String", "valueOf", "(C)Ljava/lang/String;"⟩ : MethodName)) d_7_8 (w_62 hw) (w_63 hw) (w_12 hw) (w_64 hw) (by decide) (argsL := [(.int c0)]) (rest := []) (own_vocL l Z a0 hw G n0 h0 X0.old c0 hc230 ) rfl pd_17 rfl rfl (by decide) (W := 0) (Nat.le_of_eq rfl) (by decide) (by decide) (by decide) all0 (pc' := 11) rfl ?_
      rintro _ T239 h239 L239 X239 K239 ⟨r_236, t_237, kt_238, rfl, q239_0, q239_1, q239_2, q239_3, q239_4, q239_5⟩
      have sz_h239 := K239.1
      have K0_h239 : Keep h0 h239 [] := K0_h0.trans K239 all0
      have lt239_0 := own_n q239_0.lt
      have lt239_1 := own_n q239_1.lt
      have lt239_2 := own_n q239_2.lt
      have lt239_3 := own_n q239_3.lt
      exact k_retFA X239 d_7_11 rfl rfl rfl rfl K0_h239 ⟨_, rfl, _, _, _, _, _, _, rfl, q239_0, q239_1, q239_2, q239_3, by rw [hu]; exact own_cod1L hc230, by omega⟩ (by decide) (by decide)
  · have hu : own_u c0 = [own_hiC c0, own_loC c0] := if_neg hc229
    refine k_icmpYes X0 d_7_3 (flt hc229).2.1 (pc' := 12) (by decide) (by decide) ?_
    refine k_newO X0 d_7_12 (w_10 hw) (w_11 hw) (w_12 hw) (by decide) (by decide) (pc' := 15) rfl fun T241 h241 b241 g241 X241 K241 E241 D241 S241 lt241 ge241 => ?_
    have sz_h241 := K241.1
    have K0_h241 : Keep h0 h241 [] := K0_h0.trans K241 all0
    have Fn241_value : Fld Z h241 b241 "java/lang/String" "value" "[B" .null := D241 (Or.inr (w_26 hw)) (ty := (.array .byte)) (by decide)
    have Fn241_coder : Fld Z h241 b241 "java/lang/String" "coder" "B" (.int (0 : Int32)) := D241 (Or.inr (w_27 hw)) (ty := .byte) (by decide)
    refine k_dup X241 d_7_15 rfl (pc' := 16) rfl ?_
    refine k_iconst X241 d_7_16 (w := (2 : Int32)) rfl (pc' := 17) rfl ?_
    refine k_newP X241 d_7_17 (w_13 hw) (by decide) (cap := 2) (by decide) (by decide) (by decide) (by decide) (pc' := 19) rfl fun T242 h242 b242 k242 g242 X242 K242 V242 S242 lt242 ge242 => ?_
    have sz_h242 := K242.1
    have K0_h242 : Keep h0 h242 [] := K0_h241.trans K242 all0
    have V242' : Arv Z h242 b242 k242 .char (2 : Int32) [(.int (0 : Int32)), (.int (0 : Int32))] (.int (0 : Int32)) := Arv.pad V242 (pad_rep [] (.int (0 : Int32)) 2)
    refine k_dup X242 d_7_19 rfl (pc' := 20) rfl ?_
    refine k_iconst X242 d_7_20 (w := (0 : Int32)) rfl (pc' := 21) rfl ?_
    refine k_iloadN X242 d_7_21 rfl (pc' := 22) rfl ?_
    refine k_callSVF X242 (y := (⟨"com/example/tuned_odds/tunedodds/retrieval/CodePointOrderComparePinLaw", "hi", "(I)C"⟩ : MethodName)) d_7_22 (w_86 hw) (w_87 hw) (w_2 hw) (w_88 hw) (by decide) (argsL := [(.int c0)]) (rest := [(.int (0 : Int32)), (.ref b242), (.ref b242), (.ref b241), (.ref b241)]) (own_hic l Z a0 hw G n0 h242 X242.old c0 ) rfl pd_18 rfl rfl (by decide) (W := 5) (Nat.le_of_eq rfl) (by decide) (by decide) (by decide) all0 (pc' := 25) rfl ?_
    rintro _ T243 h243 L243 X243 K243 ⟨rfl, -⟩
    have sz_h243 := K243.1
    have K0_h243 : Keep h0 h243 [] := K0_h242.trans K243 all0
    have c245 := (V242'.keep K243 nin0)
    have ge247 : n0 ≤ b242 := by omega
    refine k_castore X243 (w := (own_hiC c0)) 0 d_7_25 c245 (by decide) (by decide) rfl (Nat.le_of_ble_eq_true rfl) (own_i2c_id (own_hi_ch c0).1 (own_hi_ch c0).2) (vs' := [(.int (own_hiC c0)), (.int (0 : Int32))]) rfl trivial ge247 (pc' := 26) rfl fun T246 h246 L246 X246 K246 V246 => ?_
    have sz_h246 := K246.1
    have K0_h246 : Keep h0 h246 [] := K0_h243.trans K246 (allS (Or.inr (by omega)) all0)
    refine k_dup X246 d_7_26 rfl (pc' := 27) rfl ?_
    refine k_iconst X246 d_7_27 (w := (1 : Int32)) rfl (pc' := 28) rfl ?_
    refine k_iloadN X246 d_7_28 rfl (pc' := 29) rfl ?_
    refine k_callSVF X246 (y := (⟨"com/example/tuned_odds/tunedodds/retrieval/CodePointOrderComparePinLaw", "lo", "(I)C"⟩ : MethodName)) d_7_29 (w_89 hw) (w_90 hw) (w_2 hw) (w_91 hw) (by decide) (argsL := [(.int c0)]) (rest := [(.int (1 : Int32)), (.ref b242), (.ref b242), (.ref b241), (.ref b241)]) (own_loc l Z a0 hw G n0 h246 X246.old c0 ) rfl pd_18 rfl rfl (by decide) (W := 5) (Nat.le_of_eq rfl) (by decide) (by decide) (by decide) all0 (pc' := 32) rfl ?_
    rintro _ T248 h248 L248 X248 K248 ⟨rfl, -⟩
    have sz_h248 := K248.1
    have K0_h248 : Keep h0 h248 [] := K0_h246.trans K248 all0
    have c250 := (V246.keep K248 nin0)
    have ge252 : n0 ≤ b242 := by omega
    refine k_castore X248 (w := (own_loC c0)) 1 d_7_32 c250 (by decide) (by decide) rfl (Nat.le_of_ble_eq_true rfl) (own_i2c_id (own_lo_ch c0).1 (own_lo_ch c0).2) (vs' := [(.int (own_hiC c0)), (.int (own_loC c0))]) rfl trivial ge252 (pc' := 33) rfl fun T251 h251 L251 X251 K251 V251 => ?_
    have sz_h251 := K251.1
    have K0_h251 : Keep h0 h251 [] := K0_h248.trans K251 (allS (Or.inr (by omega)) all0)
    have c253 := (((((E241.keep K242).keep K243).keep K246).keep K248).keep K251)
    have c254 := (((((Fn241_value.keep K242 nin0).keep K243 nin0).keep K246 (ninS (own_ne (by omega) : b241 ≠ b242) nin0)).keep K248 nin0).keep K251 (ninS (own_ne (by omega) : b241 ≠ b242) nin0))
    have c255 := (((((Fn241_coder.keep K242 nin0).keep K243 nin0).keep K246 (ninS (own_ne (by omega) : b241 ≠ b242) nin0)).keep K248 nin0).keep K251 (ninS (own_ne (by omega) : b241 ≠ b242) nin0))
    have ge261 : n0 ≤ b241 := by omega
    refine k_callPNF X251 (y := (⟨"java/lang/String", "<init>", "([C)V"⟩ : MethodName)) d_7_33 (w_14 hw) (w_15 hw) (w_12 hw) (w_16 hw) (by decide) rfl rfl (argsL := [(.ref b242)]) (rest := [(.ref b241)]) (own_initS l Z a0 hw G n0 h251 X251.old b241 b242 k242 (2 : Int32) [(.int (own_hiC c0)), (.int (own_loC c0))] [own_hiC c0, own_loC c0] rfl rfl (by simp) (by simp) (by omega) c253 c254 c255 V251) rfl pd_19 rfl rfl (by decide) (W := 1) (Nat.le_of_eq rfl) (by decide) (by decide) (by decide) (allS ⟨trivial, ge261⟩ all0) (pc' := 36) rfl ?_
    rintro T262 h262 L262 X262 K262 ⟨t_256, kt_257, cd_258, zz_259, bs_260, q262_0, q262_1, q262_2, q262_3, q262_4, q262_5⟩
    have sz_h262 := K262.1
    have K0_h262 : Keep h0 h262 [] := K0_h251.trans K262 (allS (Or.inr (by omega)) all0)
    have lt262_0 := own_n q262_0.lt
    have lt262_1 := own_n q262_1.lt
    have lt262_2 := own_n q262_2.lt
    have lt262_3 := own_n q262_3.lt
    exact k_retFA X262 d_7_36 rfl rfl rfl rfl K0_h262 ⟨_, rfl, _, _, _, _, _, _, rfl, q262_0, q262_2, q262_1, q262_3, by rw [hu]; exact q262_5, by omega⟩ (by decide) (by decide)
set_option maxRecDepth 65536 in
set_option maxHeartbeats 40000000 in
theorem own_encc (l : Launch) (Z : State) (a0 : Array Value) (hw : ∀ d ∈ tables_1, d.before a0 Z = true) {zc : Int32} {fm : Value}  (G : Gl Z zc fm) (n0 : Nat) (h0 : Heap) (O0 : Old Z n0 h0) (c0 : Int32) (c1 : Int32) (n : Int32) (hc0 : own_cp c0) (hc1 : own_cp c1)   :
    MetH l [] Z EL n0 (⟨"com/example/tuned_odds/tunedodds/retrieval/CodePointOrderComparePinLaw", "enc", "(III)Ljava/lang/String;"⟩ : MethodName) method_8_code 5 (Option.some (FieldType.object "java/lang/String")) ({ frames := 7, cells := 6, slots := 20, locals := 100 } : Room) #[(.int c0), (.int c1), (.int n)] h0 [] (fun r v' h' => ∃ w, r = some w ∧ ∃ (r : Nat), ∃ (t : Nat), ∃ (kt : ClassId), ∃ (cd : Int32), ∃ (zz : Int32), ∃ (bs : List Value), w = (.ref r) ∧ (Exa Z h' r "java/lang/String") ∧ (Fld Z h' r "java/lang/String" "value" "[B" (.ref t)) ∧ (Fld Z h' r "java/lang/String" "coder" "B" (.int cd)) ∧ (Arv Z h' t kt .byte zz bs (.int (0 : Int32))) ∧ (own_cod (own_enc c0 c1 n) cd zz bs) ∧ (h0.size ≤ r)) := by
  refine metH (hEL hw) (plainFor_of_name pn_4) O0 (Ls := #[.val (.int c0), .val (.int c1), .val (.int n), .unset, .unset]) (fun m => by first | rfl | (simp [entryFrame, mkF, argsToLocals, Value.category]; done)) ?_
  intro p e s m below meth c T0 v0 X0 hSf
  have K0_h0 := Keep.refl h0 []
  have n0le := X0.n0le
  obtain ⟨G_cs, G_zc, G_fm, isref_fm, G_assertionsDisabled, G_HI_BYTE_SHIFT, G_LO_BYTE_SHIFT⟩ := id G
  refine k_iloadN X0 d_8_0 rfl (pc' := 1) rfl ?_
  by_cases hc263 : n = (0 : Int32)
  · have he : own_enc c0 c1 n = [] := if_pos hc263
    refine k_ifNo X0 d_8_1 ((if0 _ _).trans (teq hc263).2) (pc' := 4) rfl ?_
    refine k_newO X0 d_8_4 (w_10 hw) (w_11 hw) (w_12 hw) (by decide) (by decide) (pc' := 7) rfl fun T264 h264 b264 g264 X264 K264 E264 D264 S264 lt264 ge264 => ?_
    have sz_h264 := K264.1
    have K0_h264 : Keep h0 h264 [] := K0_h0.trans K264 all0
    have Fn264_value : Fld Z h264 b264 "java/lang/String" "value" "[B" .null := D264 (Or.inr (w_26 hw)) (ty := (.array .byte)) (by decide)
    have Fn264_coder : Fld Z h264 b264 "java/lang/String" "coder" "B" (.int (0 : Int32)) := D264 (Or.inr (w_27 hw)) (ty := .byte) (by decide)
    refine k_dup X264 d_8_7 rfl (pc' := 8) rfl ?_
    refine k_iconst X264 d_8_8 (w := (0 : Int32)) rfl (pc' := 9) rfl ?_
    refine k_newP X264 d_8_9 (w_13 hw) (by decide) (cap := 0) (by decide) (by decide) (by decide) (by decide) (pc' := 11) rfl fun T265 h265 b265 k265 g265 X265 K265 V265 S265 lt265 ge265 => ?_
    have sz_h265 := K265.1
    have K0_h265 : Keep h0 h265 [] := K0_h264.trans K265 all0
    have V265' : Arv Z h265 b265 k265 .char (0 : Int32) [] (.int (0 : Int32)) := Arv.pad V265 (pad_rep [] (.int (0 : Int32)) 0)
    have c266 := (E264.keep K265)
    have c267 := (Fn264_value.keep K265 nin0)
    have c268 := (Fn264_coder.keep K265 nin0)
    have c271 := (X264.sf K265 all0 S264)
    have ge272 : n0 ≤ b264 := by omega
    refine k_callPNH X265 (y := (⟨"java/lang/String", "<init>", "([C)V"⟩ : MethodName)) d_8_11 (w_14 hw) (w_15 hw) (w_12 hw) (w_16 hw) (by decide) rfl rfl (argsL := [(.ref b265)]) (rest := [(.ref b264)]) (own_initE l Z a0 hw G n0 h265 X265.old b264 b265 k265 [] (.int (0 : Int32)) (by omega) c266 c267 c268 V265') rfl pd_19 rfl rfl (by decide) (W := 1) (Nat.le_of_eq rfl) (by decide) (by decide) (by decide) (allS ⟨⟨own_n (by omega), c271⟩, ge272⟩ all0) (pc' := 14) rfl ?_
    rintro v273 T273 h273 L273 X273 K273 C273 ⟨t_269, kt_270, q273_0, q273_1, q273_2, q273_3⟩
    have sz_h273 := K273.1
    have K0_h273 : Keep h0 h273 [] := K0_h265.trans K273 (allS (Or.inr (by omega)) all0)
    have lt273_0 := own_n q273_0.lt
    have lt273_1 := own_n q273_1.lt
    have lt273_2 := own_n q273_2.lt
    have lt273_3 := own_n q273_3.lt
    exact k_retHA X273 d_8_14 rfl rfl rfl rfl K0_h273 (fun v' C' => ⟨_, rfl, _, _, _, _, _, _, rfl, q273_0, q273_2, q273_1, q273_3, by rw [he]; exact Or.inl ⟨rfl, rfl, rfl, rfl⟩, by omega⟩) (by decide) (by decide)
  · refine k_ifYes X0 d_8_1 ((if0 _ _).trans (feq hc263).2) (pc' := 15) (by decide) (by decide) ?_
    refine k_iloadN X0 d_8_15 rfl (pc' := 16) rfl ?_
    refine k_iconst X0 d_8_16 (w := (1 : Int32)) rfl (pc' := 17) rfl ?_
    by_cases hc274 : n = (1 : Int32)
    · have he : own_enc c0 c1 n = own_u c0 := by rw [own_enc, if_neg hc263, if_pos hc274]
      refine k_icmpNo X0 d_8_17 (teq hc274).2 (pc' := 20) rfl ?_
      refine k_iloadN X0 d_8_20 rfl (pc' := 21) rfl ?_
      refine k_callSVF X0 (y := (⟨"com/example/tuned_odds/tunedodds/retrieval/CodePointOrderComparePinLaw", "one", "(I)Ljava/lang/String;"⟩ : MethodName)) d_8_21 (w_58 hw) (w_59 hw) (w_2 hw) (w_60 hw) (by decide) (argsL := [(.int c0)]) (rest := []) (own_onec l Z a0 hw G n0 h0 X0.old c0 hc0 ) rfl pd_20 rfl rfl (by decide) (W := 0) (Nat.le_of_eq rfl) (by decide) (by decide) (by decide) all0 (pc' := 24) rfl ?_
      rintro _ T281 h281 L281 X281 K281 ⟨r_275, t_276, kt_277, cd_278, zz_279, bs_280, rfl, q281_0, q281_1, q281_2, q281_3, q281_4, q281_5⟩
      have sz_h281 := K281.1
      have K0_h281 : Keep h0 h281 [] := K0_h0.trans K281 all0
      have lt281_0 := own_n q281_0.lt
      have lt281_1 := own_n q281_1.lt
      have lt281_2 := own_n q281_2.lt
      have lt281_3 := own_n q281_3.lt
      exact k_retHA X281 d_8_24 rfl rfl rfl rfl K0_h281 (fun v' C' => ⟨_, rfl, _, _, _, _, _, _, rfl, q281_0, q281_1, q281_2, q281_3, by rw [he]; exact q281_4, by omega⟩) (by decide) (by decide)
    · have he : own_enc c0 c1 n = own_u c0 ++ own_u c1 := by rw [own_enc, if_neg hc263, if_neg hc274]
      refine k_icmpYes X0 d_8_17 (feq hc274).2 (pc' := 25) (by decide) (by decide) ?_
      refine k_iloadN X0 d_8_25 rfl (pc' := 26) rfl ?_
      refine k_ldcI X0 d_8_26 (w_61 hw) (pc' := 28) rfl ?_
      by_cases hc283 : c0 < (65536 : Int32)
      · have u0 : own_u c0 = [c0] := if_pos hc283
        refine k_icmpYes X0 d_8_28 (tlt hc283).1 (pc' := 35) (by decide) (by decide) ?_
        refine k_iconst X0 d_8_35 (w := (0 : Int32)) rfl (pc' := 36) rfl ?_
        refine k_istoreN X0 d_8_36 (Ls' := #[.val (.int c0), .val (.int c1), .val (.int n), .val (.int (0 : Int32)), .unset]) rfl (pc' := 37) rfl ?_
        refine k_iloadN X0 d_8_37 rfl (pc' := 38) rfl ?_
        refine k_ldcI X0 d_8_38 (w_61 hw) (pc' := 40) rfl ?_
        by_cases hc284 : c1 < (65536 : Int32)
        · have u1 : own_u c1 = [c1] := if_pos hc284
          refine k_icmpYes X0 d_8_40 (tlt hc284).1 (pc' := 47) (by decide) (by decide) ?_
          refine k_iconst X0 d_8_47 (w := (0 : Int32)) rfl (pc' := 48) rfl ?_
          refine k_istore X0 d_8_48 (Ls' := #[.val (.int c0), .val (.int c1), .val (.int n), .val (.int (0 : Int32)), .val (.int (0 : Int32))]) rfl (pc' := 50) rfl ?_
          refine k_iloadN X0 d_8_50 rfl (pc' := 51) rfl ?_
          refine k_ifNo X0 d_8_51 (by decide) (pc' := 54) rfl ?_
          refine k_iload X0 d_8_54 rfl (pc' := 56) rfl ?_
          refine k_ifNo X0 d_8_56 (by decide) (pc' := 59) rfl ?_
          refine k_newO X0 d_8_59 (w_10 hw) (w_11 hw) (w_12 hw) (by decide) (by decide) (pc' := 62) rfl fun T285 h285 b285 g285 X285 K285 E285 D285 S285 lt285 ge285 => ?_
          have sz_h285 := K285.1
          have K0_h285 : Keep h0 h285 [] := K0_h0.trans K285 all0
          have Fn285_value : Fld Z h285 b285 "java/lang/String" "value" "[B" .null := D285 (Or.inr (w_26 hw)) (ty := (.array .byte)) (by decide)
          have Fn285_coder : Fld Z h285 b285 "java/lang/String" "coder" "B" (.int (0 : Int32)) := D285 (Or.inr (w_27 hw)) (ty := .byte) (by decide)
          refine k_dup X285 d_8_62 rfl (pc' := 63) rfl ?_
          refine k_iconst X285 d_8_63 (w := (2 : Int32)) rfl (pc' := 64) rfl ?_
          refine k_newP X285 d_8_64 (w_13 hw) (by decide) (cap := 2) (by decide) (by decide) (by decide) (by decide) (pc' := 66) rfl fun T286 h286 b286 k286 g286 X286 K286 V286 S286 lt286 ge286 => ?_
          have sz_h286 := K286.1
          have K0_h286 : Keep h0 h286 [] := K0_h285.trans K286 all0
          have V286' : Arv Z h286 b286 k286 .char (2 : Int32) [(.int (0 : Int32)), (.int (0 : Int32))] (.int (0 : Int32)) := Arv.pad V286 (pad_rep [] (.int (0 : Int32)) 2)
          refine k_dup X286 d_8_66 rfl (pc' := 67) rfl ?_
          refine k_iconst X286 d_8_67 (w := (0 : Int32)) rfl (pc' := 68) rfl ?_
          refine k_iloadN X286 d_8_68 rfl (pc' := 69) rfl ?_
          refine k_i2c X286 d_8_69 (w := c0) (own_i2c_cp hc0 hc283) (pc' := 70) rfl ?_
          have ge288 : n0 ≤ b286 := by omega
          refine k_castore X286 (w := c0) 0 d_8_70 V286' (by decide) (by decide) rfl (Nat.le_of_ble_eq_true rfl) (own_i2c_cp hc0 hc283) (vs' := [(.int c0), (.int (0 : Int32))]) rfl S286 ge288 (pc' := 71) rfl fun T287 h287 L287 X287 K287 V287 => ?_
          have sz_h287 := K287.1
          have K0_h287 : Keep h0 h287 [] := K0_h286.trans K287 (allS (Or.inr (by omega)) all0)
          refine k_dup X287 d_8_71 rfl (pc' := 72) rfl ?_
          refine k_iconst X287 d_8_72 (w := (1 : Int32)) rfl (pc' := 73) rfl ?_
          refine k_iloadN X287 d_8_73 rfl (pc' := 74) rfl ?_
          refine k_i2c X287 d_8_74 (w := c1) (own_i2c_cp hc1 hc284) (pc' := 75) rfl ?_
          have c290 := (X286.sf K287 (allS ⟨S286, ge288⟩ all0) S286)
          have ge291 : n0 ≤ b286 := by omega
          refine k_castore X287 (w := c1) 1 d_8_75 V287 (by decide) (by decide) rfl (Nat.le_of_ble_eq_true rfl) (own_i2c_cp hc1 hc284) (vs' := [(.int c0), (.int c1)]) rfl c290 ge291 (pc' := 76) rfl fun T289 h289 L289 X289 K289 V289 => ?_
          have sz_h289 := K289.1
          have K0_h289 : Keep h0 h289 [] := K0_h287.trans K289 (allS (Or.inr (by omega)) all0)
          have c292 := (((E285.keep K286).keep K287).keep K289)
          have c293 := (((Fn285_value.keep K286 nin0).keep K287 (ninS (own_ne (by omega) : b285 ≠ b286) nin0)).keep K289 (ninS (own_ne (by omega) : b285 ≠ b286) nin0))
          have c294 := (((Fn285_coder.keep K286 nin0).keep K287 (ninS (own_ne (by omega) : b285 ≠ b286) nin0)).keep K289 (ninS (own_ne (by omega) : b285 ≠ b286) nin0))
          have c300 := (X287.sf K289 (allS ⟨c290, ge291⟩ all0) (X286.sf K287 (allS ⟨S286, ge288⟩ all0) (X285.sf K286 all0 S285)))
          have ge301 : n0 ≤ b285 := by omega
          refine k_callPNF X289 (y := (⟨"java/lang/String", "<init>", "([C)V"⟩ : MethodName)) d_8_76 (w_14 hw) (w_15 hw) (w_12 hw) (w_16 hw) (by decide) rfl rfl (argsL := [(.ref b286)]) (rest := [(.ref b285)]) (own_initS l Z a0 hw G n0 h289 X289.old b285 b286 k286 (2 : Int32) [(.int c0), (.int c1)] [c0, c1] rfl rfl (by simp) (by simp) (by omega) c292 c293 c294 V289) rfl pd_19 rfl rfl (by decide) (W := 1) (Nat.le_of_eq rfl) (by decide) (by decide) (by decide) (allS ⟨c300, ge301⟩ all0) (pc' := 79) rfl ?_
          rintro T302 h302 L302 X302 K302 ⟨t_295, kt_296, cd_297, zz_298, bs_299, q302_0, q302_1, q302_2, q302_3, q302_4, q302_5⟩
          have sz_h302 := K302.1
          have K0_h302 : Keep h0 h302 [] := K0_h289.trans K302 (allS (Or.inr (by omega)) all0)
          have lt302_0 := own_n q302_0.lt
          have lt302_1 := own_n q302_1.lt
          have lt302_2 := own_n q302_2.lt
          have lt302_3 := own_n q302_3.lt
          exact k_retHA X302 d_8_79 rfl rfl rfl rfl K0_h302 (fun v' C' => ⟨_, rfl, _, _, _, _, _, _, rfl, q302_0, q302_2, q302_1, q302_3, by rw [he, u0, u1]; exact q302_5, by omega⟩) (by decide) (by decide)
        · have u1 : own_u c1 = [own_hiC c1, own_loC c1] := if_neg hc284
          refine k_icmpNo X0 d_8_40 (flt hc284).1 (pc' := 43) rfl ?_
          refine k_iconst X0 d_8_43 (w := (1 : Int32)) rfl (pc' := 44) rfl ?_
          refine k_goto X0 d_8_44 (pc' := 48) (by decide) (by decide) ?_
          refine k_istore X0 d_8_48 (Ls' := #[.val (.int c0), .val (.int c1), .val (.int n), .val (.int (0 : Int32)), .val (.int (1 : Int32))]) rfl (pc' := 50) rfl ?_
          refine k_iloadN X0 d_8_50 rfl (pc' := 51) rfl ?_
          refine k_ifNo X0 d_8_51 (by decide) (pc' := 54) rfl ?_
          refine k_iload X0 d_8_54 rfl (pc' := 56) rfl ?_
          refine k_ifYes X0 d_8_56 (by decide) (pc' := 80) (by decide) (by decide) ?_
          refine k_iloadN X0 d_8_80 rfl (pc' := 81) rfl ?_
          refine k_ifYes X0 d_8_81 (by decide) (pc' := 119) (by decide) (by decide) ?_
          refine k_iloadN X0 d_8_119 rfl (pc' := 120) rfl ?_
          refine k_ifNo X0 d_8_120 (by decide) (pc' := 123) rfl ?_
          refine k_iload X0 d_8_123 rfl (pc' := 125) rfl ?_
          refine k_ifNo X0 d_8_125 (by decide) (pc' := 128) rfl ?_
          refine k_newO X0 d_8_128 (w_10 hw) (w_11 hw) (w_12 hw) (by decide) (by decide) (pc' := 131) rfl fun T303 h303 b303 g303 X303 K303 E303 D303 S303 lt303 ge303 => ?_
          have sz_h303 := K303.1
          have K0_h303 : Keep h0 h303 [] := K0_h0.trans K303 all0
          have Fn303_value : Fld Z h303 b303 "java/lang/String" "value" "[B" .null := D303 (Or.inr (w_26 hw)) (ty := (.array .byte)) (by decide)
          have Fn303_coder : Fld Z h303 b303 "java/lang/String" "coder" "B" (.int (0 : Int32)) := D303 (Or.inr (w_27 hw)) (ty := .byte) (by decide)
          refine k_dup X303 d_8_131 rfl (pc' := 132) rfl ?_
          refine k_iconst X303 d_8_132 (w := (3 : Int32)) rfl (pc' := 133) rfl ?_
          refine k_newP X303 d_8_133 (w_13 hw) (by decide) (cap := 3) (by decide) (by decide) (by decide) (by decide) (pc' := 135) rfl fun T304 h304 b304 k304 g304 X304 K304 V304 S304 lt304 ge304 => ?_
          have sz_h304 := K304.1
          have K0_h304 : Keep h0 h304 [] := K0_h303.trans K304 all0
          have V304' : Arv Z h304 b304 k304 .char (3 : Int32) [(.int (0 : Int32)), (.int (0 : Int32)), (.int (0 : Int32))] (.int (0 : Int32)) := Arv.pad V304 (pad_rep [] (.int (0 : Int32)) 3)
          refine k_dup X304 d_8_135 rfl (pc' := 136) rfl ?_
          refine k_iconst X304 d_8_136 (w := (0 : Int32)) rfl (pc' := 137) rfl ?_
          refine k_iloadN X304 d_8_137 rfl (pc' := 138) rfl ?_
          refine k_i2c X304 d_8_138 (w := c0) (own_i2c_cp hc0 hc283) (pc' := 139) rfl ?_
          have ge306 : n0 ≤ b304 := by omega
          refine k_castore X304 (w := c0) 0 d_8_139 V304' (by decide) (by decide) rfl (Nat.le_of_ble_eq_true rfl) (own_i2c_cp hc0 hc283) (vs' := [(.int c0), (.int (0 : Int32)), (.int (0 : Int32))]) rfl S304 ge306 (pc' := 140) rfl fun T305 h305 L305 X305 K305 V305 => ?_
          have sz_h305 := K305.1
          have K0_h305 : Keep h0 h305 [] := K0_h304.trans K305 (allS (Or.inr (by omega)) all0)
          refine k_dup X305 d_8_140 rfl (pc' := 141) rfl ?_
          refine k_iconst X305 d_8_141 (w := (1 : Int32)) rfl (pc' := 142) rfl ?_
          refine k_iloadN X305 d_8_142 rfl (pc' := 143) rfl ?_
          refine k_callSVF X305 (y := (⟨"com/example/tuned_odds/tunedodds/retrieval/CodePointOrderComparePinLaw", "hi", "(I)C"⟩ : MethodName)) d_8_143 (w_86 hw) (w_87 hw) (w_2 hw) (w_88 hw) (by decide) (argsL := [(.int c1)]) (rest := [(.int (1 : Int32)), (.ref b304), (.ref b304), (.ref b303), (.ref b303)]) (own_hic l Z a0 hw G n0 h305 X305.old c1 ) rfl pd_18 rfl rfl (by decide) (W := 5) (Nat.le_of_eq rfl) (by decide) (by decide) (by decide) all0 (pc' := 146) rfl ?_
          rintro _ T307 h307 L307 X307 K307 ⟨rfl, -⟩
          have sz_h307 := K307.1
          have K0_h307 : Keep h0 h307 [] := K0_h305.trans K307 all0
          have c309 := (V305.keep K307 nin0)
          have c311 := (X305.sf K307 all0 (X304.sf K305 (allS ⟨S304, ge306⟩ all0) S304))
          have ge312 : n0 ≤ b304 := by omega
          refine k_castore X307 (w := (own_hiC c1)) 1 d_8_146 c309 (by decide) (by decide) rfl (Nat.le_of_ble_eq_true rfl) (own_i2c_id (own_hi_ch c1).1 (own_hi_ch c1).2) (vs' := [(.int c0), (.int (own_hiC c1)), (.int (0 : Int32))]) rfl c311 ge312 (pc' := 147) rfl fun T310 h310 L310 X310 K310 V310 => ?_
          have sz_h310 := K310.1
          have K0_h310 : Keep h0 h310 [] := K0_h307.trans K310 (allS (Or.inr (by omega)) all0)
          refine k_dup X310 d_8_147 rfl (pc' := 148) rfl ?_
          refine k_iconst X310 d_8_148 (w := (2 : Int32)) rfl (pc' := 149) rfl ?_
          refine k_iloadN X310 d_8_149 rfl (pc' := 150) rfl ?_
          refine k_callSVF X310 (y := (⟨"com/example/tuned_odds/tunedodds/retrieval/CodePointOrderComparePinLaw", "lo", "(I)C"⟩ : MethodName)) d_8_150 (w_89 hw) (w_90 hw) (w_2 hw) (w_91 hw) (by decide) (argsL := [(.int c1)]) (rest := [(.int (2 : Int32)), (.ref b304), (.ref b304), (.ref b303), (.ref b303)]) (own_loc l Z a0 hw G n0 h310 X310.old c1 ) rfl pd_18 rfl rfl (by decide) (W := 5) (Nat.le_of_eq rfl) (by decide) (by decide) (by decide) all0 (pc' := 153) rfl ?_
          rintro _ T313 h313 L313 X313 K313 ⟨rfl, -⟩
          have sz_h313 := K313.1
          have K0_h313 : Keep h0 h313 [] := K0_h310.trans K313 all0
          have c315 := (V310.keep K313 nin0)
          have c317 := (X310.sf K313 all0 (X307.sf K310 (allS ⟨c311, ge312⟩ all0) c311))
          have ge318 : n0 ≤ b304 := by omega
          refine k_castore X313 (w := (own_loC c1)) 2 d_8_153 c315 (by decide) (by decide) rfl (Nat.le_of_ble_eq_true rfl) (own_i2c_id (own_lo_ch c1).1 (own_lo_ch c1).2) (vs' := [(.int c0), (.int (own_hiC c1)), (.int (own_loC c1))]) rfl c317 ge318 (pc' := 154) rfl fun T316 h316 L316 X316 K316 V316 => ?_
          have sz_h316 := K316.1
          have K0_h316 : Keep h0 h316 [] := K0_h313.trans K316 (allS (Or.inr (by omega)) all0)
          have c319 := ((((((E303.keep K304).keep K305).keep K307).keep K310).keep K313).keep K316)
          have c320 := ((((((Fn303_value.keep K304 nin0).keep K305 (ninS (own_ne (by omega) : b303 ≠ b304) nin0)).keep K307 nin0).keep K310 (ninS (own_ne (by omega) : b303 ≠ b304) nin0)).keep K313 nin0).keep K316 (ninS (own_ne (by omega) : b303 ≠ b304) nin0))
          have c321 := ((((((Fn303_coder.keep K304 nin0).keep K305 (ninS (own_ne (by omega) : b303 ≠ b304) nin0)).keep K307 nin0).keep K310 (ninS (own_ne (by omega) : b303 ≠ b304) nin0)).keep K313 nin0).keep K316 (ninS (own_ne (by omega) : b303 ≠ b304) nin0))
          have c327 := (X313.sf K316 (allS ⟨c317, ge318⟩ all0) (X310.sf K313 all0 (X307.sf K310 (allS ⟨c311, ge312⟩ all0) (X305.sf K307 all0 (X304.sf K305 (allS ⟨S304, ge306⟩ all0) (X303.sf K304 all0 S303))))))
          have ge328 : n0 ≤ b303 := by omega
          refine k_callPNF X316 (y := (⟨"java/lang/String", "<init>", "([C)V"⟩ : MethodName)) d_8_154 (w_14 hw) (w_15 hw) (w_12 hw) (w_16 hw) (by decide) rfl rfl (argsL := [(.ref b304)]) (rest := [(.ref b303)]) (own_initS l Z a0 hw G n0 h316 X316.old b303 b304 k304 (3 : Int32) [(.int c0), (.int (own_hiC c1)), (.int (own_loC c1))] [c0, own_hiC c1, own_loC c1] rfl rfl (by simp) (by simp) (by omega) c319 c320 c321 V316) rfl pd_19 rfl rfl (by decide) (W := 1) (Nat.le_of_eq rfl) (by decide) (by decide) (by decide) (allS ⟨c327, ge328⟩ all0) (pc' := 157) rfl ?_
          rintro T329 h329 L329 X329 K329 ⟨t_322, kt_323, cd_324, zz_325, bs_326, q329_0, q329_1, q329_2, q329_3, q329_4, q329_5⟩
          have sz_h329 := K329.1
          have K0_h329 : Keep h0 h329 [] := K0_h316.trans K329 (allS (Or.inr (by omega)) all0)
          have lt329_0 := own_n q329_0.lt
          have lt329_1 := own_n q329_1.lt
          have lt329_2 := own_n q329_2.lt
          have lt329_3 := own_n q329_3.lt
          exact k_retHA X329 d_8_157 rfl rfl rfl rfl K0_h329 (fun v' C' => ⟨_, rfl, _, _, _, _, _, _, rfl, q329_0, q329_2, q329_1, q329_3, by rw [he, u0, u1]; exact q329_5, by omega⟩) (by decide) (by decide)
      · have u0 : own_u c0 = [own_hiC c0, own_loC c0] := if_neg hc283
        refine k_icmpNo X0 d_8_28 (flt hc283).1 (pc' := 31) rfl ?_
        refine k_iconst X0 d_8_31 (w := (1 : Int32)) rfl (pc' := 32) rfl ?_
        refine k_goto X0 d_8_32 (pc' := 36) (by decide) (by decide) ?_
        refine k_istoreN X0 d_8_36 (Ls' := #[.val (.int c0), .val (.int c1), .val (.int n), .val (.int (1 : Int32)), .unset]) rfl (pc' := 37) rfl ?_
        refine k_iloadN X0 d_8_37 rfl (pc' := 38) rfl ?_
        refine k_ldcI X0 d_8_38 (w_61 hw) (pc' := 40) rfl ?_
        by_cases hc330 : c1 < (65536 : Int32)
        · have u1 : own_u c1 = [c1] := if_pos hc330
          refine k_icmpYes X0 d_8_40 (tlt hc330).1 (pc' := 47) (by decide) (by decide) ?_
          refine k_iconst X0 d_8_47 (w := (0 : Int32)) rfl (pc' := 48) rfl ?_
          refine k_istore X0 d_8_48 (Ls' := #[.val (.int c0), .val (.int c1), .val (.int n), .val (.int (1 : Int32)), .val (.int (0 : Int32))]) rfl (pc' := 50) rfl ?_
          refine k_iloadN X0 d_8_50 rfl (pc' := 51) rfl ?_
          refine k_ifYes X0 d_8_51 (by decide) (pc' := 80) (by decide) (by decide) ?_
          refine k_iloadN X0 d_8_80 rfl (pc' := 81) rfl ?_
          refine k_ifNo X0 d_8_81 (by decide) (pc' := 84) rfl ?_
          refine k_iload X0 d_8_84 rfl (pc' := 86) rfl ?_
          refine k_ifNo X0 d_8_86 (by decide) (pc' := 89) rfl ?_
          refine k_newO X0 d_8_89 (w_10 hw) (w_11 hw) (w_12 hw) (by decide) (by decide) (pc' := 92) rfl fun T331 h331 b331 g331 X331 K331 E331 D331 S331 lt331 ge331 => ?_
          have sz_h331 := K331.1
          have K0_h331 : Keep h0 h331 [] := K0_h0.trans K331 all0
          have Fn331_value : Fld Z h331 b331 "java/lang/String" "value" "[B" .null := D331 (Or.inr (w_26 hw)) (ty := (.array .byte)) (by decide)
          have Fn331_coder : Fld Z h331 b331 "java/lang/String" "coder" "B" (.int (0 : Int32)) := D331 (Or.inr (w_27 hw)) (ty := .byte) (by decide)
          refine k_dup X331 d_8_92 rfl (pc' := 93) rfl ?_
          refine k_iconst X331 d_8_93 (w := (3 : Int32)) rfl (pc' := 94) rfl ?_
          refine k_newP X331 d_8_94 (w_13 hw) (by decide) (cap := 3) (by decide) (by decide) (by decide) (by decide) (pc' := 96) rfl fun T332 h332 b332 k332 g332 X332 K332 V332 S332 lt332 ge332 => ?_
          have sz_h332 := K332.1
          have K0_h332 : Keep h0 h332 [] := K0_h331.trans K332 all0
          have V332' : Arv Z h332 b332 k332 .char (3 : Int32) [(.int (0 : Int32)), (.int (0 : Int32)), (.int (0 : Int32))] (.int (0 : Int32)) := Arv.pad V332 (pad_rep [] (.int (0 : Int32)) 3)
          refine k_dup X332 d_8_96 rfl (pc' := 97) rfl ?_
          refine k_iconst X332 d_8_97 (w := (0 : Int32)) rfl (pc' := 98) rfl ?_
          refine k_iloadN X332 d_8_98 rfl (pc' := 99) rfl ?_
          refine k_callSVF X332 (y := (⟨"com/example/tuned_odds/tunedodds/retrieval/CodePointOrderComparePinLaw", "hi", "(I)C"⟩ : MethodName)) d_8_99 (w_86 hw) (w_87 hw) (w_2 hw) (w_88 hw) (by decide) (argsL := [(.int c0)]) (rest := [(.int (0 : Int32)), (.ref b332), (.ref b332), (.ref b331), (.ref b331)]) (own_hic l Z a0 hw G n0 h332 X332.old c0 ) rfl pd_18 rfl rfl (by decide) (W := 5) (Nat.le_of_eq rfl) (by decide) (by decide) (by decide) all0 (pc' := 102) rfl ?_
          rintro _ T333 h333 L333 X333 K333 ⟨rfl, -⟩
          have sz_h333 := K333.1
          have K0_h333 : Keep h0 h333 [] := K0_h332.trans K333 all0
          have c335 := (V332'.keep K333 nin0)
          have c337 := (X332.sf K333 all0 S332)
          have ge338 : n0 ≤ b332 := by omega
          refine k_castore X333 (w := (own_hiC c0)) 0 d_8_102 c335 (by decide) (by decide) rfl (Nat.le_of_ble_eq_true rfl) (own_i2c_id (own_hi_ch c0).1 (own_hi_ch c0).2) (vs' := [(.int (own_hiC c0)), (.int (0 : Int32)), (.int (0 : Int32))]) rfl c337 ge338 (pc' := 103) rfl fun T336 h336 L336 X336 K336 V336 => ?_
          have sz_h336 := K336.1
          have K0_h336 : Keep h0 h336 [] := K0_h333.trans K336 (allS (Or.inr (by omega)) all0)
          refine k_dup X336 d_8_103 rfl (pc' := 104) rfl ?_
          refine k_iconst X336 d_8_104 (w := (1 : Int32)) rfl (pc' := 105) rfl ?_
          refine k_iloadN X336 d_8_105 rfl (pc' := 106) rfl ?_
          refine k_callSVF X336 (y := (⟨"com/example/tuned_odds/tunedodds/retrieval/CodePointOrderComparePinLaw", "lo", "(I)C"⟩ : MethodName)) d_8_106 (w_89 hw) (w_90 hw) (w_2 hw) (w_91 hw) (by decide) (argsL := [(.int c0)]) (rest := [(.int (1 : Int32)), (.ref b332), (.ref b332), (.ref b331), (.ref b331)]) (own_loc l Z a0 hw G n0 h336 X336.old c0 ) rfl pd_18 rfl rfl (by decide) (W := 5) (Nat.le_of_eq rfl) (by decide) (by decide) (by decide) all0 (pc' := 109) rfl ?_
          rintro _ T339 h339 L339 X339 K339 ⟨rfl, -⟩
          have sz_h339 := K339.1
          have K0_h339 : Keep h0 h339 [] := K0_h336.trans K339 all0
          have c341 := (V336.keep K339 nin0)
          have c343 := (X336.sf K339 all0 (X333.sf K336 (allS ⟨c337, ge338⟩ all0) c337))
          have ge344 : n0 ≤ b332 := by omega
          refine k_castore X339 (w := (own_loC c0)) 1 d_8_109 c341 (by decide) (by decide) rfl (Nat.le_of_ble_eq_true rfl) (own_i2c_id (own_lo_ch c0).1 (own_lo_ch c0).2) (vs' := [(.int (own_hiC c0)), (.int (own_loC c0)), (.int (0 : Int32))]) rfl c343 ge344 (pc' := 110) rfl fun T342 h342 L342 X342 K342 V342 => ?_
          have sz_h342 := K342.1
          have K0_h342 : Keep h0 h342 [] := K0_h339.trans K342 (allS (Or.inr (by omega)) all0)
          refine k_dup X342 d_8_110 rfl (pc' := 111) rfl ?_
          refine k_iconst X342 d_8_111 (w := (2 : Int32)) rfl (pc' := 112) rfl ?_
          refine k_iloadN X342 d_8_112 rfl (pc' := 113) rfl ?_
          refine k_i2c X342 d_8_113 (w := c1) (own_i2c_cp hc1 hc330) (pc' := 114) rfl ?_
          have c346 := (X339.sf K342 (allS ⟨c343, ge344⟩ all0) c343)
          have ge347 : n0 ≤ b332 := by omega
          refine k_castore X342 (w := c1) 2 d_8_114 V342 (by decide) (by decide) rfl (Nat.le_of_ble_eq_true rfl) (own_i2c_cp hc1 hc330) (vs' := [(.int (own_hiC c0)), (.int (own_loC c0)), (.int c1)]) rfl c346 ge347 (pc' := 115) rfl fun T345 h345 L345 X345 K345 V345 => ?_
          have sz_h345 := K345.1
          have K0_h345 : Keep h0 h345 [] := K0_h342.trans K345 (allS (Or.inr (by omega)) all0)
          have c348 := ((((((E331.keep K332).keep K333).keep K336).keep K339).keep K342).keep K345)
          have c349 := ((((((Fn331_value.keep K332 nin0).keep K333 nin0).keep K336 (ninS (own_ne (by omega) : b331 ≠ b332) nin0)).keep K339 nin0).keep K342 (ninS (own_ne (by omega) : b331 ≠ b332) nin0)).keep K345 (ninS (own_ne (by omega) : b331 ≠ b332) nin0))
          have c350 := ((((((Fn331_coder.keep K332 nin0).keep K333 nin0).keep K336 (ninS (own_ne (by omega) : b331 ≠ b332) nin0)).keep K339 nin0).keep K342 (ninS (own_ne (by omega) : b331 ≠ b332) nin0)).keep K345 (ninS (own_ne (by omega) : b331 ≠ b332) nin0))
          have c356 := (X342.sf K345 (allS ⟨c346, ge347⟩ all0) (X339.sf K342 (allS ⟨c343, ge344⟩ all0) (X336.sf K339 all0 (X333.sf K336 (allS ⟨c337, ge338⟩ all0) (X332.sf K333 all0 (X331.sf K332 all0 S331))))))
          have ge357 : n0 ≤ b331 := by omega
          refine k_callPNF X345 (y := (⟨"java/lang/String", "<init>", "([C)V"⟩ : MethodName)) d_8_115 (w_14 hw) (w_15 hw) (w_12 hw) (w_16 hw) (by decide) rfl rfl (argsL := [(.ref b332)]) (rest := [(.ref b331)]) (own_initS l Z a0 hw G n0 h345 X345.old b331 b332 k332 (3 : Int32) [(.int (own_hiC c0)), (.int (own_loC c0)), (.int c1)] [own_hiC c0, own_loC c0, c1] rfl rfl (by simp) (by simp) (by omega) c348 c349 c350 V345) rfl pd_19 rfl rfl (by decide) (W := 1) (Nat.le_of_eq rfl) (by decide) (by decide) (by decide) (allS ⟨c356, ge357⟩ all0) (pc' := 118) rfl ?_
          rintro T358 h358 L358 X358 K358 ⟨t_351, kt_352, cd_353, zz_354, bs_355, q358_0, q358_1, q358_2, q358_3, q358_4, q358_5⟩
          have sz_h358 := K358.1
          have K0_h358 : Keep h0 h358 [] := K0_h345.trans K358 (allS (Or.inr (by omega)) all0)
          have lt358_0 := own_n q358_0.lt
          have lt358_1 := own_n q358_1.lt
          have lt358_2 := own_n q358_2.lt
          have lt358_3 := own_n q358_3.lt
          exact k_retHA X358 d_8_118 rfl rfl rfl rfl K0_h358 (fun v' C' => ⟨_, rfl, _, _, _, _, _, _, rfl, q358_0, q358_2, q358_1, q358_3, by rw [he, u0, u1]; exact q358_5, by omega⟩) (by decide) (by decide)
        · have u1 : own_u c1 = [own_hiC c1, own_loC c1] := if_neg hc330
          refine k_icmpNo X0 d_8_40 (flt hc330).1 (pc' := 43) rfl ?_
          refine k_iconst X0 d_8_43 (w := (1 : Int32)) rfl (pc' := 44) rfl ?_
          refine k_goto X0 d_8_44 (pc' := 48) (by decide) (by decide) ?_
          refine k_istore X0 d_8_48 (Ls' := #[.val (.int c0), .val (.int c1), .val (.int n), .val (.int (1 : Int32)), .val (.int (1 : Int32))]) rfl (pc' := 50) rfl ?_
          refine k_iloadN X0 d_8_50 rfl (pc' := 51) rfl ?_
          refine k_ifYes X0 d_8_51 (by decide) (pc' := 80) (by decide) (by decide) ?_
          refine k_iloadN X0 d_8_80 rfl (pc' := 81) rfl ?_
          refine k_ifNo X0 d_8_81 (by decide) (pc' := 84) rfl ?_
          refine k_iload X0 d_8_84 rfl (pc' := 86) rfl ?_
          refine k_ifYes X0 d_8_86 (by decide) (pc' := 119) (by decide) (by decide) ?_
          refine k_iloadN X0 d_8_119 rfl (pc' := 120) rfl ?_
          refine k_ifYes X0 d_8_120 (by decide) (pc' := 158) (by decide) (by decide) ?_
          refine k_newO X0 d_8_158 (w_10 hw) (w_11 hw) (w_12 hw) (by decide) (by decide) (pc' := 161) rfl fun T359 h359 b359 g359 X359 K359 E359 D359 S359 lt359 ge359 => ?_
          have sz_h359 := K359.1
          have K0_h359 : Keep h0 h359 [] := K0_h0.trans K359 all0
          have Fn359_value : Fld Z h359 b359 "java/lang/String" "value" "[B" .null := D359 (Or.inr (w_26 hw)) (ty := (.array .byte)) (by decide)
          have Fn359_coder : Fld Z h359 b359 "java/lang/String" "coder" "B" (.int (0 : Int32)) := D359 (Or.inr (w_27 hw)) (ty := .byte) (by decide)
          refine k_dup X359 d_8_161 rfl (pc' := 162) rfl ?_
          refine k_iconst X359 d_8_162 (w := (4 : Int32)) rfl (pc' := 163) rfl ?_
          refine k_newP X359 d_8_163 (w_13 hw) (by decide) (cap := 4) (by decide) (by decide) (by decide) (by decide) (pc' := 165) rfl fun T360 h360 b360 k360 g360 X360 K360 V360 S360 lt360 ge360 => ?_
          have sz_h360 := K360.1
          have K0_h360 : Keep h0 h360 [] := K0_h359.trans K360 all0
          have V360' : Arv Z h360 b360 k360 .char (4 : Int32) [(.int (0 : Int32)), (.int (0 : Int32)), (.int (0 : Int32)), (.int (0 : Int32))] (.int (0 : Int32)) := Arv.pad V360 (pad_rep [] (.int (0 : Int32)) 4)
          refine k_dup X360 d_8_165 rfl (pc' := 166) rfl ?_
          refine k_iconst X360 d_8_166 (w := (0 : Int32)) rfl (pc' := 167) rfl ?_
          refine k_iloadN X360 d_8_167 rfl (pc' := 168) rfl ?_
          refine k_callSVF X360 (y := (⟨"com/example/tuned_odds/tunedodds/retrieval/CodePointOrderComparePinLaw", "hi", "(I)C"⟩ : MethodName)) d_8_168 (w_86 hw) (w_87 hw) (w_2 hw) (w_88 hw) (by decide) (argsL := [(.int c0)]) (rest := [(.int (0 : Int32)), (.ref b360), (.ref b360), (.ref b359), (.ref b359)]) (own_hic l Z a0 hw G n0 h360 X360.old c0 ) rfl pd_18 rfl rfl (by decide) (W := 5) (Nat.le_of_eq rfl) (by decide) (by decide) (by decide) all0 (pc' := 171) rfl ?_
          rintro _ T361 h361 L361 X361 K361 ⟨rfl, -⟩
          have sz_h361 := K361.1
          have K0_h361 : Keep h0 h361 [] := K0_h360.trans K361 all0
          have c363 := (V360'.keep K361 nin0)
          have c365 := (X360.sf K361 all0 S360)
          have ge366 : n0 ≤ b360 := by omega
          refine k_castore X361 (w := (own_hiC c0)) 0 d_8_171 c363 (by decide) (by decide) rfl (Nat.le_of_ble_eq_true rfl) (own_i2c_id (own_hi_ch c0).1 (own_hi_ch c0).2) (vs' := [(.int (own_hiC c0)), (.int (0 : Int32)), (.int (0 : Int32)), (.int (0 : Int32))]) rfl c365 ge366 (pc' := 172) rfl fun T364 h364 L364 X364 K364 V364 => ?_
          have sz_h364 := K364.1
          have K0_h364 : Keep h0 h364 [] := K0_h361.trans K364 (allS (Or.inr (by omega)) all0)
          refine k_dup X364 d_8_172 rfl (pc' := 173) rfl ?_
          refine k_iconst X364 d_8_173 (w := (1 : Int32)) rfl (pc' := 174) rfl ?_
          refine k_iloadN X364 d_8_174 rfl (pc' := 175) rfl ?_
          refine k_callSVF X364 (y := (⟨"com/example/tuned_odds/tunedodds/retrieval/CodePointOrderComparePinLaw", "lo", "(I)C"⟩ : MethodName)) d_8_175 (w_89 hw) (w_90 hw) (w_2 hw) (w_91 hw) (by decide) (argsL := [(.int c0)]) (rest := [(.int (1 : Int32)), (.ref b360), (.ref b360), (.ref b359), (.ref b359)]) (own_loc l Z a0 hw G n0 h364 X364.old c0 ) rfl pd_18 rfl rfl (by decide) (W := 5) (Nat.le_of_eq rfl) (by decide) (by decide) (by decide) all0 (pc' := 178) rfl ?_
          rintro _ T367 h367 L367 X367 K367 ⟨rfl, -⟩
          have sz_h367 := K367.1
          have K0_h367 : Keep h0 h367 [] := K0_h364.trans K367 all0
          have c369 := (V364.keep K367 nin0)
          have c371 := (X364.sf K367 all0 (X361.sf K364 (allS ⟨c365, ge366⟩ all0) c365))
          have ge372 : n0 ≤ b360 := by omega
          refine k_castore X367 (w := (own_loC c0)) 1 d_8_178 c369 (by decide) (by decide) rfl (Nat.le_of_ble_eq_true rfl) (own_i2c_id (own_lo_ch c0).1 (own_lo_ch c0).2) (vs' := [(.int (own_hiC c0)), (.int (own_loC c0)), (.int (0 : Int32)), (.int (0 : Int32))]) rfl c371 ge372 (pc' := 179) rfl fun T370 h370 L370 X370 K370 V370 => ?_
          have sz_h370 := K370.1
          have K0_h370 : Keep h0 h370 [] := K0_h367.trans K370 (allS (Or.inr (by omega)) all0)
          refine k_dup X370 d_8_179 rfl (pc' := 180) rfl ?_
          refine k_iconst X370 d_8_180 (w := (2 : Int32)) rfl (pc' := 181) rfl ?_
          refine k_iloadN X370 d_8_181 rfl (pc' := 182) rfl ?_
          refine k_callSVF X370 (y := (⟨"com/example/tuned_odds/tunedodds/retrieval/CodePointOrderComparePinLaw", "hi", "(I)C"⟩ : MethodName)) d_8_182 (w_86 hw) (w_87 hw) (w_2 hw) (w_88 hw) (by decide) (argsL := [(.int c1)]) (rest := [(.int (2 : Int32)), (.ref b360), (.ref b360), (.ref b359), (.ref b359)]) (own_hic l Z a0 hw G n0 h370 X370.old c1 ) rfl pd_18 rfl rfl (by decide) (W := 5) (Nat.le_of_eq rfl) (by decide) (by decide) (by decide) all0 (pc' := 185) rfl ?_
          rintro _ T373 h373 L373 X373 K373 ⟨rfl, -⟩
          have sz_h373 := K373.1
          have K0_h373 : Keep h0 h373 [] := K0_h370.trans K373 all0
          have c375 := (V370.keep K373 nin0)
          have c377 := (X370.sf K373 all0 (X367.sf K370 (allS ⟨c371, ge372⟩ all0) c371))
          have ge378 : n0 ≤ b360 := by omega
          refine k_castore X373 (w := (own_hiC c1)) 2 d_8_185 c375 (by decide) (by decide) rfl (Nat.le_of_ble_eq_true rfl) (own_i2c_id (own_hi_ch c1).1 (own_hi_ch c1).2) (vs' := [(.int (own_hiC c0)), (.int (own_loC c0)), (.int (own_hiC c1)), (.int (0 : Int32))]) rfl c377 ge378 (pc' := 186) rfl fun T376 h376 L376 X376 K376 V376 => ?_
          have sz_h376 := K376.1
          have K0_h376 : Keep h0 h376 [] := K0_h373.trans K376 (allS (Or.inr (by omega)) all0)
          refine k_dup X376 d_8_186 rfl (pc' := 187) rfl ?_
          refine k_iconst X376 d_8_187 (w := (3 : Int32)) rfl (pc' := 188) rfl ?_
          refine k_iloadN X376 d_8_188 rfl (pc' := 189) rfl ?_
          refine k_callSVF X376 (y := (⟨"com/example/tuned_odds/tunedodds/retrieval/CodePointOrderComparePinLaw", "lo", "(I)C"⟩ : MethodName)) d_8_189 (w_89 hw) (w_90 hw) (w_2 hw) (w_91 hw) (by decide) (argsL := [(.int c1)]) (rest := [(.int (3 : Int32)), (.ref b360), (.ref b360), (.ref b359), (.ref b359)]) (own_loc l Z a0 hw G n0 h376 X376.old c1 ) rfl pd_18 rfl rfl (by decide) (W := 5) (Nat.le_of_eq rfl) (by decide) (by decide) (by decide) all0 (pc' := 192) rfl ?_
          rintro _ T379 h379 L379 X379 K379 ⟨rfl, -⟩
          have sz_h379 := K379.1
          have K0_h379 : Keep h0 h379 [] := K0_h376.trans K379 all0
          have c381 := (V376.keep K379 nin0)
          have c383 := (X376.sf K379 all0 (X373.sf K376 (allS ⟨c377, ge378⟩ all0) c377))
          have ge384 : n0 ≤ b360 := by omega
          refine k_castore X379 (w := (own_loC c1)) 3 d_8_192 c381 (by decide) (by decide) rfl (Nat.le_of_ble_eq_true rfl) (own_i2c_id (own_lo_ch c1).1 (own_lo_ch c1).2) (vs' := [(.int (own_hiC c0)), (.int (own_loC c0)), (.int (own_hiC c1)), (.int (own_loC c1))]) rfl c383 ge384 (pc' := 193) rfl fun T382 h382 L382 X382 K382 V382 => ?_
          have sz_h382 := K382.1
          have K0_h382 : Keep h0 h382 [] := K0_h379.trans K382 (allS (Or.inr (by omega)) all0)
          have c385 := (((((((((E359.keep K360).keep K361).keep K364).keep K367).keep K370).keep K373).keep K376).keep K379).keep K382)
          have c386 := (((((((((Fn359_value.keep K360 nin0).keep K361 nin0).keep K364 (ninS (own_ne (by omega) : b359 ≠ b360) nin0)).keep K367 nin0).keep K370 (ninS (own_ne (by omega) : b359 ≠ b360) nin0)).keep K373 nin0).keep K376 (ninS (own_ne (by omega) : b359 ≠ b360) nin0)).keep K379 nin0).keep K382 (ninS (own_ne (by omega) : b359 ≠ b360) nin0))
          have c387 := (((((((((Fn359_coder.keep K360 nin0).keep K361 nin0).keep K364 (ninS (own_ne (by omega) : b359 ≠ b360) nin0)).keep K367 nin0).keep K370 (ninS (own_ne (by omega) : b359 ≠ b360) nin0)).keep K373 nin0).keep K376 (ninS (own_ne (by omega) : b359 ≠ b360) nin0)).keep K379 nin0).keep K382 (ninS (own_ne (by omega) : b359 ≠ b360) nin0))
          have c393 := (X379.sf K382 (allS ⟨c383, ge384⟩ all0) (X376.sf K379 all0 (X373.sf K376 (allS ⟨c377, ge378⟩ all0) (X370.sf K373 all0 (X367.sf K370 (allS ⟨c371, ge372⟩ all0) (X364.sf K367 all0 (X361.sf K364 (allS ⟨c365, ge366⟩ all0) (X360.sf K361 all0 (X359.sf K360 all0 S359)))))))))
          have ge394 : n0 ≤ b359 := by omega
          refine k_callPNF X382 (y := (⟨"java/lang/String", "<init>", "([C)V"⟩ : MethodName)) d_8_193 (w_14 hw) (w_15 hw) (w_12 hw) (w_16 hw) (by decide) rfl rfl (argsL := [(.ref b360)]) (rest := [(.ref b359)]) (own_initS l Z a0 hw G n0 h382 X382.old b359 b360 k360 (4 : Int32) [(.int (own_hiC c0)), (.int (own_loC c0)), (.int (own_hiC c1)), (.int (own_loC c1))] [own_hiC c0, own_loC c0, own_hiC c1, own_loC c1] rfl rfl (by simp) (by simp) (by omega) c385 c386 c387 V382) rfl pd_19 rfl rfl (by decide) (W := 1) (Nat.le_of_eq rfl) (by decide) (by decide) (by decide) (allS ⟨c393, ge394⟩ all0) (pc' := 196) rfl ?_
          rintro T395 h395 L395 X395 K395 ⟨t_388, kt_389, cd_390, zz_391, bs_392, q395_0, q395_1, q395_2, q395_3, q395_4, q395_5⟩
          have sz_h395 := K395.1
          have K0_h395 : Keep h0 h395 [] := K0_h382.trans K395 (allS (Or.inr (by omega)) all0)
          have lt395_0 := own_n q395_0.lt
          have lt395_1 := own_n q395_1.lt
          have lt395_2 := own_n q395_2.lt
          have lt395_3 := own_n q395_3.lt
          exact k_retHA X395 d_8_196 rfl rfl rfl rfl K0_h395 (fun v' C' => ⟨_, rfl, _, _, _, _, _, _, rfl, q395_0, q395_2, q395_1, q395_3, by rw [he, u0, u1]; exact q395_5, by omega⟩) (by decide) (by decide)
set_option maxRecDepth 65536 in
set_option maxHeartbeats 40000000 in
theorem own_icmpc (l : Launch) (Z : State) (a0 : Array Value) (hw : ∀ d ∈ tables_1, d.before a0 Z = true) {zc : Int32} {fm : Value}  (G : Gl Z zc fm) (n0 : Nat) (h0 : Heap) (O0 : Old Z n0 h0) (x : Int32) (z : Int32)   :
    MetF l [] Z n0 (⟨"java/lang/Integer", "compare", "(II)I"⟩ : MethodName) jdk_33_method_40_code 2 (Option.some FieldType.int) ({ frames := 0, cells := 0, slots := 0, locals := 0 } : Room) #[(.int x), (.int z)] h0 [] (fun r h' => ∃ w, r = some w ∧ w = (.int (own_icmp x z)) ∧ True) := by
  refine metF (plainFor_of_name pn_5) O0 (Ls := #[.val (.int x), .val (.int z)]) (fun m => by first | rfl | (simp [entryFrame, mkF, argsToLocals, Value.category]; done)) ?_
  intro p e s m below meth c T0 X0
  have K0_h0 := Keep.refl h0 []
  have n0le := X0.n0le
  obtain ⟨G_cs, G_zc, G_fm, isref_fm, G_assertionsDisabled, G_HI_BYTE_SHIFT, G_LO_BYTE_SHIFT⟩ := id G
  refine k_iloadN X0 d_jdk_33_40_0 rfl (pc' := 1) rfl ?_
  refine k_iloadN X0 d_jdk_33_40_1 rfl (pc' := 2) rfl ?_
  by_cases hc396 : x < z
  · have he := own_icmp_lt hc396
    refine k_icmpNo X0 d_jdk_33_40_2 (tlt hc396).2.1 (pc' := 5) rfl ?_
    refine k_iconst X0 d_jdk_33_40_5 (w := (-1 : Int32)) rfl (pc' := 6) rfl ?_
    refine k_goto X0 d_jdk_33_40_6 (pc' := 19) (by decide) (by decide) ?_
    exact k_retFI X0 d_jdk_33_40_19 rfl K0_h0 ⟨_, rfl, by rw [he], trivial⟩ (by decide) (by decide)
  · refine k_icmpYes X0 d_jdk_33_40_2 (flt hc396).2.1 (pc' := 9) (by decide) (by decide) ?_
    refine k_iloadN X0 d_jdk_33_40_9 rfl (pc' := 10) rfl ?_
    refine k_iloadN X0 d_jdk_33_40_10 rfl (pc' := 11) rfl ?_
    by_cases hc397 : x = z
    · have he : own_icmp x z = 0 := by rw [own_icmp, if_neg hc396, if_pos hc397]
      refine k_icmpNo X0 d_jdk_33_40_11 (teq hc397).2 (pc' := 14) rfl ?_
      refine k_iconst X0 d_jdk_33_40_14 (w := (0 : Int32)) rfl (pc' := 15) rfl ?_
      refine k_goto X0 d_jdk_33_40_15 (pc' := 19) (by decide) (by decide) ?_
      exact k_retFI X0 d_jdk_33_40_19 rfl K0_h0 ⟨_, rfl, by rw [he], trivial⟩ (by decide) (by decide)
    · have he := own_icmp_gt hc396 hc397
      refine k_icmpYes X0 d_jdk_33_40_11 (feq hc397).2 (pc' := 18) (by decide) (by decide) ?_
      refine k_iconst X0 d_jdk_33_40_18 (w := (1 : Int32)) rfl (pc' := 19) rfl ?_
      exact k_retFI X0 d_jdk_33_40_19 rfl K0_h0 ⟨_, rfl, by rw [he], trivial⟩ (by decide) (by decide)
set_option maxRecDepth 65536 in
set_option maxHeartbeats 40000000 in
theorem own_isSur0 (l : Launch) (Z : State) (a0 : Array Value) (hw : ∀ d ∈ tables_1, d.before a0 Z = true) {zc : Int32} {fm : Value}  (G : Gl Z zc fm) (n0 : Nat) (h0 : Heap) (O0 : Old Z n0 h0) (x : Int32) (hlt : x < 57344) (hs0 : x < 55296)   :
    MetF l [] Z n0 (⟨"java/lang/Character", "isSurrogate", "(C)Z"⟩ : MethodName) jdk_89_method_16_code 1 (Option.some FieldType.boolean) ({ frames := 0, cells := 0, slots := 0, locals := 0 } : Room) #[(.int x)] h0 [] (fun r h' => ∃ w, r = some w ∧ w = (.int (0 : Int32)) ∧ True) := by
  refine metF (plainFor_of_name pn_6) O0 (Ls := #[.val (.int x)]) (fun m => by first | rfl | (simp [entryFrame, mkF, argsToLocals, Value.category]; done)) ?_
  intro p e s m below meth c T0 X0
  have K0_h0 := Keep.refl h0 []
  have n0le := X0.n0le
  obtain ⟨G_cs, G_zc, G_fm, isref_fm, G_assertionsDisabled, G_HI_BYTE_SHIFT, G_LO_BYTE_SHIFT⟩ := id G
  refine k_iloadN X0 d_jdk_89_16_0 rfl (pc' := 1) rfl ?_
  refine k_ldcI X0 d_jdk_89_16_1 (w_150 hw) (pc' := 3) rfl ?_
  refine k_icmpYes X0 d_jdk_89_16_3 (tlt hs0).1 (pc' := 16) (by decide) (by decide) ?_
  refine k_iconst X0 d_jdk_89_16_16 (w := (0 : Int32)) rfl (pc' := 17) rfl ?_
  exact k_retFN X0 (w := (0 : Int32)) d_jdk_89_16_17 (t := .boolean) rfl (by simp) rfl K0_h0 ⟨_, rfl, rfl, trivial⟩ (by decide) (by decide)
set_option maxRecDepth 65536 in
set_option maxHeartbeats 40000000 in
theorem own_isSur1 (l : Launch) (Z : State) (a0 : Array Value) (hw : ∀ d ∈ tables_1, d.before a0 Z = true) {zc : Int32} {fm : Value}  (G : Gl Z zc fm) (n0 : Nat) (h0 : Heap) (O0 : Old Z n0 h0) (x : Int32) (hlt : x < 57344) (hs1 : ¬ x < 55296)   :
    MetF l [] Z n0 (⟨"java/lang/Character", "isSurrogate", "(C)Z"⟩ : MethodName) jdk_89_method_16_code 1 (Option.some FieldType.boolean) ({ frames := 0, cells := 0, slots := 0, locals := 0 } : Room) #[(.int x)] h0 [] (fun r h' => ∃ w, r = some w ∧ w = (.int (1 : Int32)) ∧ True) := by
  refine metF (plainFor_of_name pn_6) O0 (Ls := #[.val (.int x)]) (fun m => by first | rfl | (simp [entryFrame, mkF, argsToLocals, Value.category]; done)) ?_
  intro p e s m below meth c T0 X0
  have K0_h0 := Keep.refl h0 []
  have n0le := X0.n0le
  obtain ⟨G_cs, G_zc, G_fm, isref_fm, G_assertionsDisabled, G_HI_BYTE_SHIFT, G_LO_BYTE_SHIFT⟩ := id G
  refine k_iloadN X0 d_jdk_89_16_0 rfl (pc' := 1) rfl ?_
  refine k_ldcI X0 d_jdk_89_16_1 (w_150 hw) (pc' := 3) rfl ?_
  refine k_icmpNo X0 d_jdk_89_16_3 (flt hs1).1 (pc' := 6) rfl ?_
  refine k_iloadN X0 d_jdk_89_16_6 rfl (pc' := 7) rfl ?_
  refine k_ldcI X0 d_jdk_89_16_7 (w_151 hw) (pc' := 9) rfl ?_
  refine k_icmpNo X0 d_jdk_89_16_9 (tlt hlt).2.1 (pc' := 12) rfl ?_
  refine k_iconst X0 d_jdk_89_16_12 (w := (1 : Int32)) rfl (pc' := 13) rfl ?_
  refine k_goto X0 d_jdk_89_16_13 (pc' := 17) (by decide) (by decide) ?_
  exact k_retFN X0 (w := (1 : Int32)) d_jdk_89_16_17 (t := .boolean) rfl (by simp) rfl K0_h0 ⟨_, rfl, rfl, trivial⟩ (by decide) (by decide)
set_option maxRecDepth 65536 in
set_option maxHeartbeats 40000000 in
theorem own_rankc (l : Launch) (Z : State) (a0 : Array Value) (hw : ∀ d ∈ tables_1, d.before a0 Z = true) {zc : Int32} {fm : Value}  (G : Gl Z zc fm) (n0 : Nat) (h0 : Heap) (O0 : Old Z n0 h0) (x : Int32)   :
    MetF l [] Z n0 (⟨"com/example/tuned_odds/tunedodds/retrieval/CodePointOrder", "rank", "(C)I"⟩ : MethodName) prog_42_method_3_code 2 (Option.some FieldType.int) ({ frames := 1, cells := 0, slots := 0, locals := 12 } : Room) #[(.int x)] h0 [] (fun r h' => ∃ w, r = some w ∧ w = (.int (own_rank x)) ∧ True) := by
  refine metF (plainFor_of_name pn_7) O0 (Ls := #[.val (.int x), .unset]) (fun m => by first | rfl | (simp [entryFrame, mkF, argsToLocals, Value.category]; done)) ?_
  intro p e s m below meth c T0 X0
  have K0_h0 := Keep.refl h0 []
  have n0le := X0.n0le
  obtain ⟨G_cs, G_zc, G_fm, isref_fm, G_assertionsDisabled, G_HI_BYTE_SHIFT, G_LO_BYTE_SHIFT⟩ := id G
  refine k_iloadN X0 d_prog_42_3_0 rfl (pc' := 1) rfl ?_
  refine k_istoreN X0 d_prog_42_3_1 (Ls' := #[.val (.int x), .val (.int x)]) rfl (pc' := 2) rfl ?_
  refine k_iloadN X0 d_prog_42_3_2 rfl (pc' := 3) rfl ?_
  refine k_ldcI X0 d_prog_42_3_3 (w_145 hw) (pc' := 5) rfl ?_
  by_cases hc398 : x < (57344 : Int32)
  · refine k_icmpYes X0 d_prog_42_3_5 (tlt hc398).1 (pc' := 17) (by decide) (by decide) ?_
    by_cases hc399 : x < (55296 : Int32)
    · have he : own_rank x = x := by rw [own_rank, if_neg (fun q => q hc398), if_neg (fun q => q hc399)]
      refine k_iloadN X0 d_prog_42_3_17 rfl (pc' := 18) rfl ?_
      refine k_callSVF X0 (y := (⟨"java/lang/Character", "isSurrogate", "(C)Z"⟩ : MethodName)) d_prog_42_3_18 (w_146 hw) (w_147 hw) (w_148 hw) (w_149 hw) (by decide) (argsL := [(.int x)]) (rest := []) (own_isSur0 l Z a0 hw G n0 h0 X0.old x hc398 hc399 ) rfl pd_14 rfl rfl (by decide) (W := 0) (Nat.le_of_eq rfl) (by decide) (by decide) (by decide) all0 (pc' := 21) rfl ?_
      rintro _ T400 h400 L400 X400 K400 ⟨rfl, -⟩
      have sz_h400 := K400.1
      have K0_h400 : Keep h0 h400 [] := K0_h0.trans K400 all0
      refine k_ifYes X400 d_prog_42_3_21 (by decide) (pc' := 30) (by decide) (by decide) ?_
      refine k_iloadN X400 d_prog_42_3_30 rfl (pc' := 31) rfl ?_
      exact k_retFI X400 d_prog_42_3_31 rfl K0_h400 ⟨_, rfl, by rw [he], trivial⟩ (by decide) (by decide)
    · have he : own_rank x = x + 8192 := by rw [own_rank, if_neg (fun q => q hc398), if_pos hc399]
      refine k_iloadN X0 d_prog_42_3_17 rfl (pc' := 18) rfl ?_
      refine k_callSVF X0 (y := (⟨"java/lang/Character", "isSurrogate", "(C)Z"⟩ : MethodName)) d_prog_42_3_18 (w_146 hw) (w_147 hw) (w_148 hw) (w_149 hw) (by decide) (argsL := [(.int x)]) (rest := []) (own_isSur1 l Z a0 hw G n0 h0 X0.old x hc398 hc399 ) rfl pd_14 rfl rfl (by decide) (W := 0) (Nat.le_of_eq rfl) (by decide) (by decide) (by decide) all0 (pc' := 21) rfl ?_
      rintro _ T402 h402 L402 X402 K402 ⟨rfl, -⟩
      have sz_h402 := K402.1
      have K0_h402 : Keep h0 h402 [] := K0_h0.trans K402 all0
      refine k_ifNo X402 d_prog_42_3_21 (by decide) (pc' := 24) rfl ?_
      refine k_iloadN X402 d_prog_42_3_24 rfl (pc' := 25) rfl ?_
      refine k_sipush X402 d_prog_42_3_25 (w := (8192 : Int32)) rfl (pc' := 28) rfl ?_
      refine k_iadd X402 d_prog_42_3_28 (w := (x + (8192 : Int32))) rfl (pc' := 29) rfl ?_
      refine k_istoreN X402 d_prog_42_3_29 (Ls' := #[.val (.int x), .val (.int (x + (8192 : Int32)))]) rfl (pc' := 30) rfl ?_
      refine k_iloadN X402 d_prog_42_3_30 rfl (pc' := 31) rfl ?_
      exact k_retFI X402 d_prog_42_3_31 rfl K0_h402 ⟨_, rfl, by rw [he], trivial⟩ (by decide) (by decide)
  · have he : own_rank x = x - 2048 := if_pos hc398
    refine k_icmpNo X0 d_prog_42_3_5 (flt hc398).1 (pc' := 8) rfl ?_
    refine k_iloadN X0 d_prog_42_3_8 rfl (pc' := 9) rfl ?_
    refine k_sipush X0 d_prog_42_3_9 (w := (2048 : Int32)) rfl (pc' := 12) rfl ?_
    refine k_isub X0 d_prog_42_3_12 (w := (x - (2048 : Int32))) rfl (pc' := 13) rfl ?_
    refine k_istoreN X0 d_prog_42_3_13 (Ls' := #[.val (.int x), .val (.int (x - (2048 : Int32)))]) rfl (pc' := 14) rfl ?_
    refine k_goto X0 d_prog_42_3_14 (pc' := 30) (by decide) (by decide) ?_
    refine k_iloadN X0 d_prog_42_3_30 rfl (pc' := 31) rfl ?_
    exact k_retFI X0 d_prog_42_3_31 rfl K0_h0 ⟨_, rfl, by rw [he], trivial⟩ (by decide) (by decide)
set_option maxRecDepth 65536 in
set_option maxHeartbeats 40000000 in
theorem own_minc (l : Launch) (Z : State) (a0 : Array Value) (hw : ∀ d ∈ tables_1, d.before a0 Z = true) {zc : Int32} {fm : Value}  (G : Gl Z zc fm) (n0 : Nat) (h0 : Heap) (O0 : Old Z n0 h0) (x : Int32) (z : Int32)   :
    MetF l [] Z n0 (⟨"java/lang/Math", "min", "(II)I"⟩ : MethodName) jdk_29_method_69_code 2 (Option.some FieldType.int) ({ frames := 0, cells := 0, slots := 0, locals := 0 } : Room) #[(.int x), (.int z)] h0 [] (fun r h' => ∃ w, r = some w ∧ w = (.int (own_minv x z)) ∧ True) := by
  refine metF pn_8 O0 (Ls := #[.val (.int x), .val (.int z)]) (fun m => by first | rfl | (simp [entryFrame, mkF, argsToLocals, Value.category]; done)) ?_
  intro p e s m below meth c T0 X0
  have K0_h0 := Keep.refl h0 []
  have n0le := X0.n0le
  obtain ⟨G_cs, G_zc, G_fm, isref_fm, G_assertionsDisabled, G_HI_BYTE_SHIFT, G_LO_BYTE_SHIFT⟩ := id G
  refine k_iloadN X0 d_jdk_29_69_0 rfl (pc' := 1) rfl ?_
  refine k_iloadN X0 d_jdk_29_69_1 rfl (pc' := 2) rfl ?_
  by_cases hc404 : z < x
  · have he : own_minv x z = z := if_pos hc404
    refine k_icmpYes X0 d_jdk_29_69_2 (tlt hc404).2.2.1 (pc' := 9) (by decide) (by decide) ?_
    refine k_iloadN X0 d_jdk_29_69_9 rfl (pc' := 10) rfl ?_
    exact k_retFI X0 d_jdk_29_69_10 rfl K0_h0 ⟨_, rfl, by rw [he], trivial⟩ (by decide) (by decide)
  · have he : own_minv x z = x := if_neg hc404
    refine k_icmpNo X0 d_jdk_29_69_2 (flt hc404).2.2.1 (pc' := 5) rfl ?_
    refine k_iloadN X0 d_jdk_29_69_5 rfl (pc' := 6) rfl ?_
    refine k_goto X0 d_jdk_29_69_6 (pc' := 10) (by decide) (by decide) ?_
    exact k_retFI X0 d_jdk_29_69_10 rfl K0_h0 ⟨_, rfl, by rw [he], trivial⟩ (by decide) (by decide)
set_option maxRecDepth 65536 in
set_option maxHeartbeats 40000000 in
theorem own_cmpc (l : Launch) (Z : State) (a0 : Array Value) (hw : ∀ d ∈ tables_1, d.before a0 Z = true) {zc : Int32} {fm : Value}  (G : Gl Z zc fm) (n0 : Nat) (h0 : Heap) (O0 : Old Z n0 h0) (a : Nat) (b : Nat) (t : Nat) (kt : ClassId) (cd : Int32) (zz : Int32) (bs : List Value) (cs : List Int32) (t2 : Nat) (kt2 : ClassId) (cd2 : Int32) (zz2 : Int32) (bs2 : List Value) (cs2 : List Int32) (hn : cs.length ≤ 4) (hn2 : cs2.length ≤ 4) (hr : own_chs cs) (hr2 : own_chs cs2)  (q0 : Exa Z h0 a "java/lang/String") (q1 : Fld Z h0 a "java/lang/String" "value" "[B" (.ref t)) (q2 : Fld Z h0 a "java/lang/String" "coder" "B" (.int cd)) (q3 : Arv Z h0 t kt .byte zz bs (.int (0 : Int32))) (q4 : own_cod cs cd zz bs) (q5 : Exa Z h0 b "java/lang/String") (q6 : Fld Z h0 b "java/lang/String" "value" "[B" (.ref t2)) (q7 : Fld Z h0 b "java/lang/String" "coder" "B" (.int cd2)) (q8 : Arv Z h0 t2 kt2 .byte zz2 bs2 (.int (0 : Int32))) (q9 : own_cod cs2 cd2 zz2 bs2) :
    MetF l [] Z n0 (⟨"com/example/tuned_odds/tunedodds/retrieval/CodePointOrder", "compare", "(Ljava/lang/String;Ljava/lang/String;)I"⟩ : MethodName) prog_42_method_2_code 6 (Option.some FieldType.int) ({ frames := 5, cells := 0, slots := 0, locals := 66 } : Room) #[(.ref a), (.ref b)] h0 [] (fun r h' => ∃ w, r = some w ∧ w = (.int (own_cmp cs cs2)) ∧ True) := by
  refine metF (plainFor_of_name pn_7) O0 (Ls := #[.val (.ref a), .val (.ref b), .unset, .unset, .unset, .unset]) (fun m => by first | rfl | (simp [entryFrame, mkF, argsToLocals, Value.category]; done)) ?_
  intro p e s m below meth c T0 X0
  have K0_h0 := Keep.refl h0 []
  have n0le := X0.n0le
  have ltq0 := own_n q0.lt
  have ltq1 := own_n q1.lt
  have ltq2 := own_n q2.lt
  have ltq3 := own_n q3.lt
  have ltq5 := own_n q5.lt
  have ltq6 := own_n q6.lt
  have ltq7 := own_n q7.lt
  have ltq8 := own_n q8.lt
  obtain ⟨G_cs, G_zc, G_fm, isref_fm, G_assertionsDisabled, G_HI_BYTE_SHIFT, G_LO_BYTE_SHIFT⟩ := id G
  have hmn : (min cs.length cs2.length) ≤ 4 := by omega
  have loop : ∀ (n i : Nat) (T : State) (h : Heap) (L : List Loc) (s4 s5 : Slot), n = (min cs.length cs2.length) - i → i ≤ (min cs.length cs2.length) → One s4 → One s5 → own_cmp cs cs2 = own_cmp (cs.drop i) (cs2.drop i) → WP p l e ({ frames := 5, cells := 0, slots := 0, locals := 66 } : Room) s m #[(.ref a), (.ref b)] below meth c Z "com/example/tuned_odds/tunedodds/retrieval/CodePointOrder" "compare" prog_42_method_2_code 6 (Option.some FieldType.int) n0 (fun _ => True) (fun _ _ => True) T h L 0 0 → Keep h0 h [] → Exa Z h a "java/lang/String" → Fld Z h a "java/lang/String" "value" "[B" (.ref t) → Fld Z h a "java/lang/String" "coder" "B" (.int cd) → Arv Z h t kt .byte zz bs (.int (0 : Int32)) → Exa Z h b "java/lang/String" → Fld Z h b "java/lang/String" "value" "[B" (.ref t2) → Fld Z h b "java/lang/String" "coder" "B" (.int cd2) → Arv Z h t2 kt2 .byte zz2 bs2 (.int (0 : Int32)) → Run p.tables e below (PF s below n0 h0 [] (fun r h' => ∃ w, r = some w ∧ w = (.int (own_cmp cs cs2)) ∧ True) ({ frames := 5, cells := 0, slots := 0, locals := 66 } : Room).cells ({ frames := 5, cells := 0, slots := 0, locals := 66 } : Room).slots) T (mkF m 14 #[.val (.ref a), .val (.ref b), .val (.int (Int32.ofNat (min cs.length cs2.length))), .val (.int (Int32.ofNat i)), s4, s5] []) := by
    intro n
    induction n with
    | zero =>
      intro i T h L s4 s5 hni hij h4 h5 hc X K f0 f1 f2 f3 f4 f5 f6 f7
      have hi : i = (min cs.length cs2.length) := by omega
      subst hi
      have hend := own_cmp_end (cs := cs) (ds := cs2) (i := (min cs.length cs2.length)) (by omega) (by omega) (by omega) (by omega) (by omega)
      have nle := X.n0le
      have lh0 := K.1
      have lf0 := own_n f0.lt
      have lf3 := own_n f3.lt
      have lf4 := own_n f4.lt
      have lf7 := own_n f7.lt
      refine k_iloadN X d_prog_42_2_14 rfl (pc' := 15) rfl ?_
      refine k_iloadN X d_prog_42_2_15 rfl (pc' := 16) rfl ?_
      refine k_icmpYes X d_prog_42_2_16 (flt Int32.lt_irrefl).2.1 (pc' := 60) (by decide) (by decide) ?_
      refine k_aloadN X d_prog_42_2_60 rfl rfl (pc' := 61) rfl ?_
      refine k_callVVF X (y := (⟨"java/lang/String", "length", "()I"⟩ : MethodName)) d_prog_42_2_61 (w_39 hw) (w_40 hw) (w_42 hw) (w_41 hw) (w_12 hw) (w_43 hw) (by decide) (notFace_of_selects (args := #[]) (mvT X.hZ (w_42 hw))) f0 (argsL := []) (rest := []) (own_len l Z a0 hw G n0 h X.old a t kt cd zz bs cs (by omega) f0 f1 f2 f3 q4) rfl pd_21 rfl rfl (by decide) (W := 0) (Nat.le_of_eq rfl) (by decide) (by decide) (by decide) all0 (pc' := 64) rfl ?_
      rintro _ T405 h405 L405 X405 K405 ⟨rfl, -⟩
      have sz_h405 := K405.1
      have K0_h405 : Keep h0 h405 [] := K.trans K405 all0
      refine k_aloadN X405 d_prog_42_2_64 rfl rfl (pc' := 65) rfl ?_
      have c407 := (f4.keep K405)
      have c408 := (f5.keep K405 nin0)
      have c409 := (f6.keep K405 nin0)
      have c410 := (f7.keep K405 nin0)
      refine k_callVVF X405 (y := (⟨"java/lang/String", "length", "()I"⟩ : MethodName)) d_prog_42_2_65 (w_39 hw) (w_40 hw) (w_42 hw) (w_41 hw) (w_12 hw) (w_43 hw) (by decide) (notFace_of_selects (args := #[]) (mvT X405.hZ (w_42 hw))) c407 (argsL := []) (rest := [(.int (Int32.ofNat cs.length))]) (own_len l Z a0 hw G n0 h405 X405.old b t2 kt2 cd2 zz2 bs2 cs2 (by omega) c407 c408 c409 c410 q9) rfl pd_21 rfl rfl (by decide) (W := 1) (Nat.le_of_eq rfl) (by decide) (by decide) (by decide) all0 (pc' := 68) rfl ?_
      rintro _ T411 h411 L411 X411 K411 ⟨rfl, -⟩
      have sz_h411 := K411.1
      have K0_h411 : Keep h0 h411 [] := K0_h405.trans K411 all0
      refine k_callSVF X411 (y := (⟨"java/lang/Integer", "compare", "(II)I"⟩ : MethodName)) d_prog_42_2_68 (w_54 hw) (w_55 hw) (w_56 hw) (w_57 hw) (by decide) (argsL := [(.int (Int32.ofNat cs.length)), (.int (Int32.ofNat cs2.length))]) (rest := []) (own_icmpc l Z a0 hw G n0 h411 X411.old (Int32.ofNat cs.length) (Int32.ofNat cs2.length) ) rfl pd_22 rfl rfl (by decide) (W := 0) (Nat.le_of_eq rfl) (by decide) (by decide) (by decide) all0 (pc' := 71) rfl ?_
      rintro _ T413 h413 L413 X413 K413 ⟨rfl, -⟩
      have sz_h413 := K413.1
      have K0_h413 : Keep h0 h413 [] := K0_h411.trans K413 all0
      exact k_retFI X413 d_prog_42_2_71 rfl K0_h413 ⟨_, rfl, by rw [hc, hend], trivial⟩ (by decide) (by decide)
    | succ n ih =>
      intro i T h L s4 s5 hni hij h4 h5 hc X K f0 f1 f2 f3 f4 f5 f6 f7
      have hi1 : i < cs.length := by omega
      have hi2 : i < cs2.length := by omega
      have hlt := own_lt (show i < (min cs.length cs2.length) by omega) (by omega)
      have nle := X.n0le
      have lh0 := K.1
      have lf0 := own_n f0.lt
      have lf3 := own_n f3.lt
      have lf4 := own_n f4.lt
      have lf7 := own_n f7.lt
      refine k_iloadN X d_prog_42_2_14 rfl (pc' := 15) rfl ?_
      refine k_iloadN X d_prog_42_2_15 rfl (pc' := 16) rfl ?_
      refine k_icmpNo X d_prog_42_2_16 (tlt hlt).2.1 (pc' := 19) rfl ?_
      refine k_aloadN X d_prog_42_2_19 rfl rfl (pc' := 20) rfl ?_
      refine k_iloadN X d_prog_42_2_20 rfl (pc' := 21) rfl ?_
      refine k_callVVF X (y := (⟨"java/lang/String", "charAt", "(I)C"⟩ : MethodName)) d_prog_42_2_21 (w_112 hw) (w_113 hw) (w_115 hw) (w_114 hw) (w_12 hw) (w_116 hw) (by decide) (notFace_of_selects (args := #[]) (mvT X.hZ (w_115 hw))) f0 (argsL := [(.int (Int32.ofNat i))]) (rest := []) (own_charAt l Z a0 hw G n0 h X.old a t kt cd zz bs cs i (Int32.ofNat i) rfl hi1 (by omega) (own_chs_at hr hi1) f0 f1 f2 f3 q4) rfl pd_18 rfl rfl (by decide) (W := 0) (Nat.le_of_eq rfl) (by decide) (by decide) (by decide) all0 (pc' := 24) rfl ?_
      rintro _ T415 h415 L415 X415 K415 ⟨rfl, -⟩
      have sz_h415 := K415.1
      have K0_h415 : Keep h0 h415 [] := K.trans K415 all0
      refine k_istore X415 d_prog_42_2_24 (Ls' := #[.val (.ref a), .val (.ref b), .val (.int (Int32.ofNat (min cs.length cs2.length))), .val (.int (Int32.ofNat i)), .val (.int (cs.getD i 0)), s5]) (by rcases h4 with rfl | ⟨w, rfl, hw⟩; rfl; cases w <;> first | rfl | (simp [Value.category] at hw)) (pc' := 26) rfl ?_
      refine k_aloadN X415 d_prog_42_2_26 rfl rfl (pc' := 27) rfl ?_
      refine k_iloadN X415 d_prog_42_2_27 rfl (pc' := 28) rfl ?_
      have c417 := (f4.keep K415)
      have c418 := (f5.keep K415 nin0)
      have c419 := (f6.keep K415 nin0)
      have c420 := (f7.keep K415 nin0)
      refine k_callVVF X415 (y := (⟨"java/lang/String", "charAt", "(I)C"⟩ : MethodName)) d_prog_42_2_28 (w_112 hw) (w_113 hw) (w_115 hw) (w_114 hw) (w_12 hw) (w_116 hw) (by decide) (notFace_of_selects (args := #[]) (mvT X415.hZ (w_115 hw))) c417 (argsL := [(.int (Int32.ofNat i))]) (rest := []) (own_charAt l Z a0 hw G n0 h415 X415.old b t2 kt2 cd2 zz2 bs2 cs2 i (Int32.ofNat i) rfl hi2 (by omega) (own_chs_at hr2 hi2) c417 c418 c419 c420 q9) rfl pd_18 rfl rfl (by decide) (W := 0) (Nat.le_of_eq rfl) (by decide) (by decide) (by decide) all0 (pc' := 31) rfl ?_
      rintro _ T421 h421 L421 X421 K421 ⟨rfl, -⟩
      have sz_h421 := K421.1
      have K0_h421 : Keep h0 h421 [] := K0_h415.trans K421 all0
      refine k_istore X421 d_prog_42_2_31 (Ls' := #[.val (.ref a), .val (.ref b), .val (.int (Int32.ofNat (min cs.length cs2.length))), .val (.int (Int32.ofNat i)), .val (.int (cs.getD i 0)), .val (.int (cs2.getD i 0))]) (by rcases h5 with rfl | ⟨w, rfl, hw⟩; rfl; cases w <;> first | rfl | (simp [Value.category] at hw)) (pc' := 33) rfl ?_
      refine k_iload X421 d_prog_42_2_33 rfl (pc' := 35) rfl ?_
      refine k_iload X421 d_prog_42_2_35 rfl (pc' := 37) rfl ?_
      by_cases hc423 : cs.getD i 0 = cs2.getD i 0
      · refine k_icmpYes X421 d_prog_42_2_37 (teq hc423).1 (pc' := 54) (by decide) (by decide) ?_
        refine k_iinc X421 d_prog_42_2_54 rfl (w := (Int32.ofNat (i + 1))) (own_succ i) (Ls' := #[.val (.ref a), .val (.ref b), .val (.int (Int32.ofNat (min cs.length cs2.length))), .val (.int (Int32.ofNat (i + 1))), .val (.int (cs.getD i 0)), .val (.int (cs2.getD i 0))]) rfl (pc' := 57) rfl ?_
        refine k_goto X421 d_prog_42_2_57 (pc' := 14) (by decide) (by decide) ?_
        have hc2 : own_cmp cs cs2 = own_cmp (cs.drop (i + 1)) (cs2.drop (i + 1)) := by rw [hc, own_drop_at hi1, own_drop_at hi2, hc423, own_cmp_same]
        have c424 := ((f0.keep K415).keep K421)
        have c425 := ((f1.keep K415 nin0).keep K421 nin0)
        have c426 := ((f2.keep K415 nin0).keep K421 nin0)
        have c427 := ((f3.keep K415 nin0).keep K421 nin0)
        have c428 := (c417.keep K421)
        have c429 := (c418.keep K421 nin0)
        have c430 := (c419.keep K421 nin0)
        have c431 := (c420.keep K421 nin0)
        exact ih (i + 1) _ _ _ _ _ (by omega) (by omega) (One.val rfl) (One.val rfl) hc2 X421 K0_h421 c424 c425 c426 c427 c428 c429 c430 c431
      · have hc2 : own_cmp cs cs2 = own_icmp (own_rank (cs.getD i 0)) (own_rank (cs2.getD i 0)) := by rw [hc, own_drop_at hi1, own_drop_at hi2, own_cmp_diff hc423]
        refine k_icmpNo X421 d_prog_42_2_37 (feq hc423).1 (pc' := 40) rfl ?_
        refine k_iload X421 d_prog_42_2_40 rfl (pc' := 42) rfl ?_
        refine k_callSVF X421 (y := (⟨"com/example/tuned_odds/tunedodds/retrieval/CodePointOrder", "rank", "(C)I"⟩ : MethodName)) d_prog_42_2_42 (w_142 hw) (w_143 hw) (w_37 hw) (w_144 hw) (by decide) (argsL := [(.int (cs.getD i 0))]) (rest := []) (own_rankc l Z a0 hw G n0 h421 X421.old (cs.getD i 0) ) rfl pd_23 rfl rfl (by decide) (W := 0) (Nat.le_of_eq rfl) (by decide) (by decide) (by decide) all0 (pc' := 45) rfl ?_
        rintro _ T432 h432 L432 X432 K432 ⟨rfl, -⟩
        have sz_h432 := K432.1
        have K0_h432 : Keep h0 h432 [] := K0_h421.trans K432 all0
        refine k_iload X432 d_prog_42_2_45 rfl (pc' := 47) rfl ?_
        refine k_callSVF X432 (y := (⟨"com/example/tuned_odds/tunedodds/retrieval/CodePointOrder", "rank", "(C)I"⟩ : MethodName)) d_prog_42_2_47 (w_142 hw) (w_143 hw) (w_37 hw) (w_144 hw) (by decide) (argsL := [(.int (cs2.getD i 0))]) (rest := [(.int (own_rank (cs.getD i 0)))]) (own_rankc l Z a0 hw G n0 h432 X432.old (cs2.getD i 0) ) rfl pd_23 rfl rfl (by decide) (W := 1) (Nat.le_of_eq rfl) (by decide) (by decide) (by decide) all0 (pc' := 50) rfl ?_
        rintro _ T434 h434 L434 X434 K434 ⟨rfl, -⟩
        have sz_h434 := K434.1
        have K0_h434 : Keep h0 h434 [] := K0_h432.trans K434 all0
        refine k_callSVF X434 (y := (⟨"java/lang/Integer", "compare", "(II)I"⟩ : MethodName)) d_prog_42_2_50 (w_54 hw) (w_55 hw) (w_56 hw) (w_57 hw) (by decide) (argsL := [(.int (own_rank (cs.getD i 0))), (.int (own_rank (cs2.getD i 0)))]) (rest := []) (own_icmpc l Z a0 hw G n0 h434 X434.old (own_rank (cs.getD i 0)) (own_rank (cs2.getD i 0)) ) rfl pd_22 rfl rfl (by decide) (W := 0) (Nat.le_of_eq rfl) (by decide) (by decide) (by decide) all0 (pc' := 53) rfl ?_
        rintro _ T436 h436 L436 X436 K436 ⟨rfl, -⟩
        have sz_h436 := K436.1
        have K0_h436 : Keep h0 h436 [] := K0_h434.trans K436 all0
        exact k_retFI X436 d_prog_42_2_53 rfl K0_h436 ⟨_, rfl, by rw [hc2], trivial⟩ (by decide) (by decide)
  refine k_aloadN X0 d_prog_42_2_0 rfl rfl (pc' := 1) rfl ?_
  refine k_callVVF X0 (y := (⟨"java/lang/String", "length", "()I"⟩ : MethodName)) d_prog_42_2_1 (w_39 hw) (w_40 hw) (w_42 hw) (w_41 hw) (w_12 hw) (w_43 hw) (by decide) (notFace_of_selects (args := #[]) (mvT X0.hZ (w_42 hw))) q0 (argsL := []) (rest := []) (own_len l Z a0 hw G n0 h0 X0.old a t kt cd zz bs cs (by omega) q0 q1 q2 q3 q4) rfl pd_21 rfl rfl (by decide) (W := 0) (Nat.le_of_eq rfl) (by decide) (by decide) (by decide) all0 (pc' := 4) rfl ?_
  rintro _ T438 h438 L438 X438 K438 ⟨rfl, -⟩
  have sz_h438 := K438.1
  have K0_h438 : Keep h0 h438 [] := K0_h0.trans K438 all0
  refine k_aloadN X438 d_prog_42_2_4 rfl rfl (pc' := 5) rfl ?_
  have c440 := (q5.keep K438)
  have c441 := (q6.keep K438 nin0)
  have c442 := (q7.keep K438 nin0)
  have c443 := (q8.keep K438 nin0)
  refine k_callVVF X438 (y := (⟨"java/lang/String", "length", "()I"⟩ : MethodName)) d_prog_42_2_5 (w_39 hw) (w_40 hw) (w_42 hw) (w_41 hw) (w_12 hw) (w_43 hw) (by decide) (notFace_of_selects (args := #[]) (mvT X438.hZ (w_42 hw))) c440 (argsL := []) (rest := [(.int (Int32.ofNat cs.length))]) (own_len l Z a0 hw G n0 h438 X438.old b t2 kt2 cd2 zz2 bs2 cs2 (by omega) c440 c441 c442 c443 q9) rfl pd_21 rfl rfl (by decide) (W := 1) (Nat.le_of_eq rfl) (by decide) (by decide) (by decide) all0 (pc' := 8) rfl ?_
  rintro _ T444 h444 L444 X444 K444 ⟨rfl, -⟩
  have sz_h444 := K444.1
  have K0_h444 : Keep h0 h444 [] := K0_h438.trans K444 all0
  refine k_callSVF X444 (y := (⟨"java/lang/Math", "min", "(II)I"⟩ : MethodName)) d_prog_42_2_8 (w_50 hw) (w_51 hw) (w_52 hw) (w_53 hw) (by decide) (argsL := [(.int (Int32.ofNat cs.length)), (.int (Int32.ofNat cs2.length))]) (rest := []) (own_minc l Z a0 hw G n0 h444 X444.old (Int32.ofNat cs.length) (Int32.ofNat cs2.length) ) rfl pd_22 rfl rfl (by decide) (W := 0) (Nat.le_of_eq rfl) (by decide) (by decide) (by decide) all0 (pc' := 11) rfl ?_
  rintro _ T446 h446 L446 X446 K446 ⟨rfl, -⟩
  have sz_h446 := K446.1
  have K0_h446 : Keep h0 h446 [] := K0_h444.trans K446 all0
  rw [own_min_nat (by omega) (by omega)]
  refine k_istoreN X446 d_prog_42_2_11 (Ls' := #[.val (.ref a), .val (.ref b), .val (.int (Int32.ofNat (min cs.length cs2.length))), .unset, .unset, .unset]) rfl (pc' := 12) rfl ?_
  refine k_iconst X446 d_prog_42_2_12 (w := (0 : Int32)) rfl (pc' := 13) rfl ?_
  refine k_istoreN X446 d_prog_42_2_13 (Ls' := #[.val (.ref a), .val (.ref b), .val (.int (Int32.ofNat (min cs.length cs2.length))), .val (.int (0 : Int32)), .unset, .unset]) rfl (pc' := 14) rfl ?_
  have c448 := (((q0.keep K438).keep K444).keep K446)
  have c449 := (((q1.keep K438 nin0).keep K444 nin0).keep K446 nin0)
  have c450 := (((q2.keep K438 nin0).keep K444 nin0).keep K446 nin0)
  have c451 := (((q3.keep K438 nin0).keep K444 nin0).keep K446 nin0)
  have c452 := ((c440.keep K444).keep K446)
  have c453 := ((c441.keep K444 nin0).keep K446 nin0)
  have c454 := ((c442.keep K444 nin0).keep K446 nin0)
  have c455 := ((c443.keep K444 nin0).keep K446 nin0)
  exact loop _ 0 _ _ _ _ _ rfl (by omega) One.u One.u rfl X446 K0_h446 c448 c449 c450 c451 c452 c453 c454 c455
set_option maxRecDepth 65536 in
set_option maxHeartbeats 40000000 in
theorem own_law (l : Launch) (Z : State) (a0 : Array Value) (hw : ∀ d ∈ tables_1, d.before a0 Z = true) {zc : Int32} {fm : Value} (G : Gl Z zc fm) (n0 : Nat) (h0 : Heap) (O0 : Old Z n0 h0) (p0 : Int32) (p1 : Int32) (p2 : Int32) (p3 : Int32) (p4 : Int32) :
    MetH l tables_1 Z EL n0 (⟨"com/example/tuned_odds/tunedodds/retrieval/CodePointOrderComparePinLaw", "law", "(IIIII)Z"⟩ : MethodName) code 14 (some .boolean) room_1 #[(.int p0), (.int p1), (.int p2), (.int p3), (.int p4)] h0 [] (fun r v' h' => ∃ w, r = some w ∧ w = .int (1 : Int32) ∧ True) := by
  refine metH (hEL hw) (plainFor_of_name pn_4) O0 (Ls := #[.val (.int p0), .val (.int p1), .val (.int p2), .val (.int p3), .val (.int p4), .unset, .unset, .unset, .unset, .unset, .unset, .unset, .unset, .unset]) (fun m => by first | rfl | (simp [entryFrame, mkF, argsToLocals, Value.category]; done)) ?_
  intro p e s m below meth c T0 v0 X0 hSf
  have K0_h0 := Keep.refl h0 []
  have n0le := X0.n0le
  obtain ⟨G_cs, G_zc, G_fm, isref_fm, G_assertionsDisabled, G_HI_BYTE_SHIFT, G_LO_BYTE_SHIFT⟩ := id G
  have mid : ∀ (T : State) (h : Heap) (L : List Loc) (v : Vm) (na nb x0 x1 y0 y1 : Int32), own_3 na → own_3 nb → own_cp x0 → own_cp x1 → own_cp y0 → own_cp y1 → WP p l e room_1 (s.setVm v) m #[(.int p0), (.int p1), (.int p2), (.int p3), (.int p4)] below meth c Z "com/example/tuned_odds/tunedodds/retrieval/CodePointOrderComparePinLaw" "law" code 14 (some .boolean) n0 (InvH Z a0 EL s v) (Safe Z EL v) T h L 0 0 → Keep h0 h [] → Run p.tables e below (PH Z EL s below n0 h0 [] (fun r v' h' => ∃ w, r = some w ∧ w = .int (1 : Int32) ∧ True) room_1.cells room_1.slots) T (mkF m 75 #[.val (.int p0), .val (.int p1), .val (.int p2), .val (.int p3), .val (.int p4), .val (.int na), .val (.int nb), .val (.int x0), .val (.int x1), .val (.int y0), .val (.int y1), .unset, .unset, .unset] []) := by
    intro T h L v na nb x0 x1 y0 y1 h3a h3b hx0 hx1 hy0 hy1 X K
    have nle := X.n0le
    have lh0 := K.1
    refine k_iload X at_75 rfl (pc' := 77) rfl ?_
    refine k_iload X at_77 rfl (pc' := 79) rfl ?_
    refine k_iload X at_79 rfl (pc' := 81) rfl ?_
    refine k_callSVH X (y := (⟨"com/example/tuned_odds/tunedodds/retrieval/CodePointOrderComparePinLaw", "enc", "(III)Ljava/lang/String;"⟩ : MethodName)) at_81 (w_7 hw) (w_8 hw) (w_2 hw) (w_9 hw) (by decide) (argsL := [(.int x0), (.int x1), (.int na)]) (rest := []) (own_encc l Z a0 hw G n0 h X.old x0 x1 na hx0 hx1 ) rfl pd_24 rfl rfl (by decide) (W := 0) (Nat.le_of_eq rfl) (by decide) (by decide) (by decide) all0 (pc' := 84) rfl ?_
    rintro _ v462 T462 h462 L462 X462 K462 C462 ⟨r_456, t_457, kt_458, cd_459, zz_460, bs_461, rfl, q462_0, q462_1, q462_2, q462_3, q462_4, q462_5⟩
    have sz_h462 := K462.1
    have K0_h462 : Keep h0 h462 [] := K.trans K462 all0
    have lt462_0 := own_n q462_0.lt
    have lt462_1 := own_n q462_1.lt
    have lt462_2 := own_n q462_2.lt
    have lt462_3 := own_n q462_3.lt
    refine k_astore X462 at_84 rfl (Ls' := #[.val (.int p0), .val (.int p1), .val (.int p2), .val (.int p3), .val (.int p4), .val (.int na), .val (.int nb), .val (.int x0), .val (.int x1), .val (.int y0), .val (.int y1), .val (.ref r_456), .unset, .unset]) rfl (pc' := 86) rfl ?_
    refine k_iload X462 at_86 rfl (pc' := 88) rfl ?_
    refine k_iload X462 at_88 rfl (pc' := 90) rfl ?_
    refine k_iload X462 at_90 rfl (pc' := 92) rfl ?_
    refine k_callSVH X462 (y := (⟨"com/example/tuned_odds/tunedodds/retrieval/CodePointOrderComparePinLaw", "enc", "(III)Ljava/lang/String;"⟩ : MethodName)) at_92 (w_7 hw) (w_8 hw) (w_2 hw) (w_9 hw) (by decide) (argsL := [(.int y0), (.int y1), (.int nb)]) (rest := []) (own_encc l Z a0 hw G n0 h462 X462.old y0 y1 nb hy0 hy1 ) rfl pd_24 rfl rfl (by decide) (W := 0) (Nat.le_of_eq rfl) (by decide) (by decide) (by decide) all0 (pc' := 95) rfl ?_
    rintro _ v470 T470 h470 L470 X470 K470 C470 ⟨r_464, t_465, kt_466, cd_467, zz_468, bs_469, rfl, q470_0, q470_1, q470_2, q470_3, q470_4, q470_5⟩
    have sz_h470 := K470.1
    have K0_h470 : Keep h0 h470 [] := K0_h462.trans K470 all0
    have lt470_0 := own_n q470_0.lt
    have lt470_1 := own_n q470_1.lt
    have lt470_2 := own_n q470_2.lt
    have lt470_3 := own_n q470_3.lt
    refine k_astore X470 at_95 rfl (Ls' := #[.val (.int p0), .val (.int p1), .val (.int p2), .val (.int p3), .val (.int p4), .val (.int na), .val (.int nb), .val (.int x0), .val (.int x1), .val (.int y0), .val (.int y1), .val (.ref r_456), .val (.ref r_464), .unset]) rfl (pc' := 97) rfl ?_
    refine k_iload X470 at_97 rfl (pc' := 99) rfl ?_
    by_cases hc472 : na = (0 : Int32)
    · refine k_ifYes X470 at_99 ((if0 _ _).trans (teq hc472).1) (pc' := 107) (by decide) (by decide) ?_
      refine k_iload X470 at_107 rfl (pc' := 109) rfl ?_
      refine k_iload X470 at_109 rfl (pc' := 111) rfl ?_
      refine k_isub X470 at_111 (w := (na - nb)) rfl (pc' := 112) rfl ?_
      refine k_callSVF X470 (y := (⟨"com/example/tuned_odds/tunedodds/retrieval/CodePointOrderComparePinLaw", "sgn", "(I)I"⟩ : MethodName)) at_112 (w_32 hw) (w_33 hw) (w_2 hw) (w_34 hw) (by decide) (argsL := [(.int (na - nb))]) (rest := []) (own_sgnc l Z a0 hw G n0 h470 X470.old (na - nb) ) rfl pd_3 rfl rfl (by decide) (W := 0) (Nat.le_of_eq rfl) (by decide) (by decide) (by decide) all0 (pc' := 115) rfl ?_
      rintro _ T473 h473 L473 X473 K473 ⟨rfl, -⟩
      have sz_h473 := K473.1
      have K0_h473 : Keep h0 h473 [] := K0_h470.trans K473 all0
      refine k_istore X473 at_115 (Ls' := #[.val (.int p0), .val (.int p1), .val (.int p2), .val (.int p3), .val (.int p4), .val (.int na), .val (.int nb), .val (.int x0), .val (.int x1), .val (.int y0), .val (.int y1), .val (.ref r_456), .val (.ref r_464), .val (.int (own_sgn (na - nb)))]) rfl (pc' := 117) rfl ?_
      refine k_goto X473 at_117 (pc' := 196) (by decide) (by decide) ?_
      refine k_aload X473 at_196 rfl rfl (pc' := 198) rfl ?_
      refine k_aload X473 at_198 rfl rfl (pc' := 200) rfl ?_
      have c475 := ((q462_0.keep K470).keep K473)
      have c476 := ((q462_1.keep K470 nin0).keep K473 nin0)
      have c477 := ((q462_2.keep K470 nin0).keep K473 nin0)
      have c478 := ((q462_3.keep K470 nin0).keep K473 nin0)
      have c479 := (q470_0.keep K473)
      have c480 := (q470_1.keep K473 nin0)
      have c481 := (q470_2.keep K473 nin0)
      have c482 := (q470_3.keep K473 nin0)
      refine k_callSVF X473 (y := (⟨"com/example/tuned_odds/tunedodds/retrieval/CodePointOrder", "compare", "(Ljava/lang/String;Ljava/lang/String;)I"⟩ : MethodName)) at_200 (w_35 hw) (w_36 hw) (w_37 hw) (w_38 hw) (by decide) (argsL := [(.ref r_456), (.ref r_464)]) (rest := []) (own_cmpc l Z a0 hw G n0 h473 X473.old r_456 r_464 t_457 kt_458 cd_459 zz_460 bs_461 (own_enc x0 x1 na) t_465 kt_466 cd_467 zz_468 bs_469 (own_enc y0 y1 nb) (own_enc_len _ _ _) (own_enc_len _ _ _) (own_enc_chs hx0 hx1) (own_enc_chs hy0 hy1) c475 c476 c477 c478 q462_4 c479 c480 c481 c482 q470_4) rfl pd_25 rfl rfl (by decide) (W := 0) (Nat.le_of_eq rfl) (by decide) (by decide) (by decide) all0 (pc' := 203) rfl ?_
      rintro _ T483 h483 L483 X483 K483 ⟨rfl, -⟩
      have sz_h483 := K483.1
      have K0_h483 : Keep h0 h483 [] := K0_h473.trans K483 all0
      refine k_callSVF X483 (y := (⟨"com/example/tuned_odds/tunedodds/retrieval/CodePointOrderComparePinLaw", "sgn", "(I)I"⟩ : MethodName)) at_203 (w_32 hw) (w_33 hw) (w_2 hw) (w_34 hw) (by decide) (argsL := [(.int (own_cmp (own_enc x0 x1 na) (own_enc y0 y1 nb)))]) (rest := []) (own_sgnc l Z a0 hw G n0 h483 X483.old (own_cmp (own_enc x0 x1 na) (own_enc y0 y1 nb)) ) rfl pd_3 rfl rfl (by decide) (W := 0) (Nat.le_of_eq rfl) (by decide) (by decide) (by decide) all0 (pc' := 206) rfl ?_
      rintro _ T485 h485 L485 X485 K485 ⟨rfl, -⟩
      have sz_h485 := K485.1
      have K0_h485 : Keep h0 h485 [] := K0_h483.trans K485 all0
      refine k_iload X485 at_206 rfl (pc' := 208) rfl ?_
      have hk : (own_sgn (own_cmp (own_enc x0 x1 na) (own_enc y0 y1 nb))) = (own_sgn (na - nb)) := own_L0 h3a h3b (Or.inl hc472)
      refine k_icmpNo X485 at_208 (teq hk).2 (pc' := 211) rfl ?_
      refine k_iconst X485 at_211 (w := (1 : Int32)) rfl (pc' := 212) rfl ?_
      refine k_goto X485 at_212 (pc' := 216) (by decide) (by decide) ?_
      exact k_retHN X485 (w := (1 : Int32)) at_216 (t := .boolean) rfl (by simp) rfl K0_h485 (fun v' C' => ⟨_, rfl, rfl, trivial⟩) (by decide) (by decide)
    · refine k_ifNo X470 at_99 ((if0 _ _).trans (feq hc472).1) (pc' := 102) rfl ?_
      refine k_iload X470 at_102 rfl (pc' := 104) rfl ?_
      by_cases hc487 : nb = (0 : Int32)
      · refine k_ifNo X470 at_104 ((if0 _ _).trans (teq hc487).2) (pc' := 107) rfl ?_
        refine k_iload X470 at_107 rfl (pc' := 109) rfl ?_
        refine k_iload X470 at_109 rfl (pc' := 111) rfl ?_
        refine k_isub X470 at_111 (w := (na - nb)) rfl (pc' := 112) rfl ?_
        refine k_callSVF X470 (y := (⟨"com/example/tuned_odds/tunedodds/retrieval/CodePointOrderComparePinLaw", "sgn", "(I)I"⟩ : MethodName)) at_112 (w_32 hw) (w_33 hw) (w_2 hw) (w_34 hw) (by decide) (argsL := [(.int (na - nb))]) (rest := []) (own_sgnc l Z a0 hw G n0 h470 X470.old (na - nb) ) rfl pd_3 rfl rfl (by decide) (W := 0) (Nat.le_of_eq rfl) (by decide) (by decide) (by decide) all0 (pc' := 115) rfl ?_
        rintro _ T488 h488 L488 X488 K488 ⟨rfl, -⟩
        have sz_h488 := K488.1
        have K0_h488 : Keep h0 h488 [] := K0_h470.trans K488 all0
        refine k_istore X488 at_115 (Ls' := #[.val (.int p0), .val (.int p1), .val (.int p2), .val (.int p3), .val (.int p4), .val (.int na), .val (.int nb), .val (.int x0), .val (.int x1), .val (.int y0), .val (.int y1), .val (.ref r_456), .val (.ref r_464), .val (.int (own_sgn (na - nb)))]) rfl (pc' := 117) rfl ?_
        refine k_goto X488 at_117 (pc' := 196) (by decide) (by decide) ?_
        refine k_aload X488 at_196 rfl rfl (pc' := 198) rfl ?_
        refine k_aload X488 at_198 rfl rfl (pc' := 200) rfl ?_
        have c490 := ((q462_0.keep K470).keep K488)
        have c491 := ((q462_1.keep K470 nin0).keep K488 nin0)
        have c492 := ((q462_2.keep K470 nin0).keep K488 nin0)
        have c493 := ((q462_3.keep K470 nin0).keep K488 nin0)
        have c494 := (q470_0.keep K488)
        have c495 := (q470_1.keep K488 nin0)
        have c496 := (q470_2.keep K488 nin0)
        have c497 := (q470_3.keep K488 nin0)
        refine k_callSVF X488 (y := (⟨"com/example/tuned_odds/tunedodds/retrieval/CodePointOrder", "compare", "(Ljava/lang/String;Ljava/lang/String;)I"⟩ : MethodName)) at_200 (w_35 hw) (w_36 hw) (w_37 hw) (w_38 hw) (by decide) (argsL := [(.ref r_456), (.ref r_464)]) (rest := []) (own_cmpc l Z a0 hw G n0 h488 X488.old r_456 r_464 t_457 kt_458 cd_459 zz_460 bs_461 (own_enc x0 x1 na) t_465 kt_466 cd_467 zz_468 bs_469 (own_enc y0 y1 nb) (own_enc_len _ _ _) (own_enc_len _ _ _) (own_enc_chs hx0 hx1) (own_enc_chs hy0 hy1) c490 c491 c492 c493 q462_4 c494 c495 c496 c497 q470_4) rfl pd_25 rfl rfl (by decide) (W := 0) (Nat.le_of_eq rfl) (by decide) (by decide) (by decide) all0 (pc' := 203) rfl ?_
        rintro _ T498 h498 L498 X498 K498 ⟨rfl, -⟩
        have sz_h498 := K498.1
        have K0_h498 : Keep h0 h498 [] := K0_h488.trans K498 all0
        refine k_callSVF X498 (y := (⟨"com/example/tuned_odds/tunedodds/retrieval/CodePointOrderComparePinLaw", "sgn", "(I)I"⟩ : MethodName)) at_203 (w_32 hw) (w_33 hw) (w_2 hw) (w_34 hw) (by decide) (argsL := [(.int (own_cmp (own_enc x0 x1 na) (own_enc y0 y1 nb)))]) (rest := []) (own_sgnc l Z a0 hw G n0 h498 X498.old (own_cmp (own_enc x0 x1 na) (own_enc y0 y1 nb)) ) rfl pd_3 rfl rfl (by decide) (W := 0) (Nat.le_of_eq rfl) (by decide) (by decide) (by decide) all0 (pc' := 206) rfl ?_
        rintro _ T500 h500 L500 X500 K500 ⟨rfl, -⟩
        have sz_h500 := K500.1
        have K0_h500 : Keep h0 h500 [] := K0_h498.trans K500 all0
        refine k_iload X500 at_206 rfl (pc' := 208) rfl ?_
        have hk : (own_sgn (own_cmp (own_enc x0 x1 na) (own_enc y0 y1 nb))) = (own_sgn (na - nb)) := own_L0 h3a h3b (Or.inr hc487)
        refine k_icmpNo X500 at_208 (teq hk).2 (pc' := 211) rfl ?_
        refine k_iconst X500 at_211 (w := (1 : Int32)) rfl (pc' := 212) rfl ?_
        refine k_goto X500 at_212 (pc' := 216) (by decide) (by decide) ?_
        exact k_retHN X500 (w := (1 : Int32)) at_216 (t := .boolean) rfl (by simp) rfl K0_h500 (fun v' C' => ⟨_, rfl, rfl, trivial⟩) (by decide) (by decide)
      · refine k_ifYes X470 at_104 ((if0 _ _).trans (feq hc487).2) (pc' := 120) (by decide) (by decide) ?_
        refine k_iload X470 at_120 rfl (pc' := 122) rfl ?_
        refine k_iload X470 at_122 rfl (pc' := 124) rfl ?_
        by_cases hc502 : x0 = y0
        · refine k_icmpYes X470 at_124 (teq hc502).1 (pc' := 144) (by decide) (by decide) ?_
          subst hc502
          refine k_iload X470 at_144 rfl (pc' := 146) rfl ?_
          refine k_iconst X470 at_146 (w := (1 : Int32)) rfl (pc' := 147) rfl ?_
          by_cases hc503 : na = (1 : Int32)
          · refine k_icmpYes X470 at_147 (teq hc503).1 (pc' := 156) (by decide) (by decide) ?_
            refine k_iload X470 at_156 rfl (pc' := 158) rfl ?_
            refine k_iload X470 at_158 rfl (pc' := 160) rfl ?_
            refine k_isub X470 at_160 (w := (na - nb)) rfl (pc' := 161) rfl ?_
            refine k_callSVF X470 (y := (⟨"com/example/tuned_odds/tunedodds/retrieval/CodePointOrderComparePinLaw", "sgn", "(I)I"⟩ : MethodName)) at_161 (w_32 hw) (w_33 hw) (w_2 hw) (w_34 hw) (by decide) (argsL := [(.int (na - nb))]) (rest := []) (own_sgnc l Z a0 hw G n0 h470 X470.old (na - nb) ) rfl pd_3 rfl rfl (by decide) (W := 0) (Nat.le_of_eq rfl) (by decide) (by decide) (by decide) all0 (pc' := 164) rfl ?_
            rintro _ T504 h504 L504 X504 K504 ⟨rfl, -⟩
            have sz_h504 := K504.1
            have K0_h504 : Keep h0 h504 [] := K0_h470.trans K504 all0
            refine k_istore X504 at_164 (Ls' := #[.val (.int p0), .val (.int p1), .val (.int p2), .val (.int p3), .val (.int p4), .val (.int na), .val (.int nb), .val (.int x0), .val (.int x1), .val (.int x0), .val (.int y1), .val (.ref r_456), .val (.ref r_464), .val (.int (own_sgn (na - nb)))]) rfl (pc' := 166) rfl ?_
            refine k_goto X504 at_166 (pc' := 196) (by decide) (by decide) ?_
            refine k_aload X504 at_196 rfl rfl (pc' := 198) rfl ?_
            refine k_aload X504 at_198 rfl rfl (pc' := 200) rfl ?_
            have c506 := ((q462_0.keep K470).keep K504)
            have c507 := ((q462_1.keep K470 nin0).keep K504 nin0)
            have c508 := ((q462_2.keep K470 nin0).keep K504 nin0)
            have c509 := ((q462_3.keep K470 nin0).keep K504 nin0)
            have c510 := (q470_0.keep K504)
            have c511 := (q470_1.keep K504 nin0)
            have c512 := (q470_2.keep K504 nin0)
            have c513 := (q470_3.keep K504 nin0)
            refine k_callSVF X504 (y := (⟨"com/example/tuned_odds/tunedodds/retrieval/CodePointOrder", "compare", "(Ljava/lang/String;Ljava/lang/String;)I"⟩ : MethodName)) at_200 (w_35 hw) (w_36 hw) (w_37 hw) (w_38 hw) (by decide) (argsL := [(.ref r_456), (.ref r_464)]) (rest := []) (own_cmpc l Z a0 hw G n0 h504 X504.old r_456 r_464 t_457 kt_458 cd_459 zz_460 bs_461 (own_enc x0 x1 na) t_465 kt_466 cd_467 zz_468 bs_469 (own_enc x0 y1 nb) (own_enc_len _ _ _) (own_enc_len _ _ _) (own_enc_chs hx0 hx1) (own_enc_chs hx0 hy1) c506 c507 c508 c509 q462_4 c510 c511 c512 c513 q470_4) rfl pd_25 rfl rfl (by decide) (W := 0) (Nat.le_of_eq rfl) (by decide) (by decide) (by decide) all0 (pc' := 203) rfl ?_
            rintro _ T514 h514 L514 X514 K514 ⟨rfl, -⟩
            have sz_h514 := K514.1
            have K0_h514 : Keep h0 h514 [] := K0_h504.trans K514 all0
            refine k_callSVF X514 (y := (⟨"com/example/tuned_odds/tunedodds/retrieval/CodePointOrderComparePinLaw", "sgn", "(I)I"⟩ : MethodName)) at_203 (w_32 hw) (w_33 hw) (w_2 hw) (w_34 hw) (by decide) (argsL := [(.int (own_cmp (own_enc x0 x1 na) (own_enc x0 y1 nb)))]) (rest := []) (own_sgnc l Z a0 hw G n0 h514 X514.old (own_cmp (own_enc x0 x1 na) (own_enc x0 y1 nb)) ) rfl pd_3 rfl rfl (by decide) (W := 0) (Nat.le_of_eq rfl) (by decide) (by decide) (by decide) all0 (pc' := 206) rfl ?_
            rintro _ T516 h516 L516 X516 K516 ⟨rfl, -⟩
            have sz_h516 := K516.1
            have K0_h516 : Keep h0 h516 [] := K0_h514.trans K516 all0
            refine k_iload X516 at_206 rfl (pc' := 208) rfl ?_
            have hk : (own_sgn (own_cmp (own_enc x0 x1 na) (own_enc x0 y1 nb))) = (own_sgn (na - nb)) := own_L2 h3a h3b hc472 hc487 (Or.inl hc503)
            refine k_icmpNo X516 at_208 (teq hk).2 (pc' := 211) rfl ?_
            refine k_iconst X516 at_211 (w := (1 : Int32)) rfl (pc' := 212) rfl ?_
            refine k_goto X516 at_212 (pc' := 216) (by decide) (by decide) ?_
            exact k_retHN X516 (w := (1 : Int32)) at_216 (t := .boolean) rfl (by simp) rfl K0_h516 (fun v' C' => ⟨_, rfl, rfl, trivial⟩) (by decide) (by decide)
          · refine k_icmpNo X470 at_147 (feq hc503).1 (pc' := 150) rfl ?_
            refine k_iload X470 at_150 rfl (pc' := 152) rfl ?_
            refine k_iconst X470 at_152 (w := (1 : Int32)) rfl (pc' := 153) rfl ?_
            by_cases hc518 : nb = (1 : Int32)
            · refine k_icmpNo X470 at_153 (teq hc518).2 (pc' := 156) rfl ?_
              refine k_iload X470 at_156 rfl (pc' := 158) rfl ?_
              refine k_iload X470 at_158 rfl (pc' := 160) rfl ?_
              refine k_isub X470 at_160 (w := (na - nb)) rfl (pc' := 161) rfl ?_
              refine k_callSVF X470 (y := (⟨"com/example/tuned_odds/tunedodds/retrieval/CodePointOrderComparePinLaw", "sgn", "(I)I"⟩ : MethodName)) at_161 (w_32 hw) (w_33 hw) (w_2 hw) (w_34 hw) (by decide) (argsL := [(.int (na - nb))]) (rest := []) (own_sgnc l Z a0 hw G n0 h470 X470.old (na - nb) ) rfl pd_3 rfl rfl (by decide) (W := 0) (Nat.le_of_eq rfl) (by decide) (by decide) (by decide) all0 (pc' := 164) rfl ?_
              rintro _ T519 h519 L519 X519 K519 ⟨rfl, -⟩
              have sz_h519 := K519.1
              have K0_h519 : Keep h0 h519 [] := K0_h470.trans K519 all0
              refine k_istore X519 at_164 (Ls' := #[.val (.int p0), .val (.int p1), .val (.int p2), .val (.int p3), .val (.int p4), .val (.int na), .val (.int nb), .val (.int x0), .val (.int x1), .val (.int x0), .val (.int y1), .val (.ref r_456), .val (.ref r_464), .val (.int (own_sgn (na - nb)))]) rfl (pc' := 166) rfl ?_
              refine k_goto X519 at_166 (pc' := 196) (by decide) (by decide) ?_
              refine k_aload X519 at_196 rfl rfl (pc' := 198) rfl ?_
              refine k_aload X519 at_198 rfl rfl (pc' := 200) rfl ?_
              have c521 := ((q462_0.keep K470).keep K519)
              have c522 := ((q462_1.keep K470 nin0).keep K519 nin0)
              have c523 := ((q462_2.keep K470 nin0).keep K519 nin0)
              have c524 := ((q462_3.keep K470 nin0).keep K519 nin0)
              have c525 := (q470_0.keep K519)
              have c526 := (q470_1.keep K519 nin0)
              have c527 := (q470_2.keep K519 nin0)
              have c528 := (q470_3.keep K519 nin0)
              refine k_callSVF X519 (y := (⟨"com/example/tuned_odds/tunedodds/retrieval/CodePointOrder", "compare", "(Ljava/lang/String;Ljava/lang/String;)I"⟩ : MethodName)) at_200 (w_35 hw) (w_36 hw) (w_37 hw) (w_38 hw) (by decide) (argsL := [(.ref r_456), (.ref r_464)]) (rest := []) (own_cmpc l Z a0 hw G n0 h519 X519.old r_456 r_464 t_457 kt_458 cd_459 zz_460 bs_461 (own_enc x0 x1 na) t_465 kt_466 cd_467 zz_468 bs_469 (own_enc x0 y1 nb) (own_enc_len _ _ _) (own_enc_len _ _ _) (own_enc_chs hx0 hx1) (own_enc_chs hx0 hy1) c521 c522 c523 c524 q462_4 c525 c526 c527 c528 q470_4) rfl pd_25 rfl rfl (by decide) (W := 0) (Nat.le_of_eq rfl) (by decide) (by decide) (by decide) all0 (pc' := 203) rfl ?_
              rintro _ T529 h529 L529 X529 K529 ⟨rfl, -⟩
              have sz_h529 := K529.1
              have K0_h529 : Keep h0 h529 [] := K0_h519.trans K529 all0
              refine k_callSVF X529 (y := (⟨"com/example/tuned_odds/tunedodds/retrieval/CodePointOrderComparePinLaw", "sgn", "(I)I"⟩ : MethodName)) at_203 (w_32 hw) (w_33 hw) (w_2 hw) (w_34 hw) (by decide) (argsL := [(.int (own_cmp (own_enc x0 x1 na) (own_enc x0 y1 nb)))]) (rest := []) (own_sgnc l Z a0 hw G n0 h529 X529.old (own_cmp (own_enc x0 x1 na) (own_enc x0 y1 nb)) ) rfl pd_3 rfl rfl (by decide) (W := 0) (Nat.le_of_eq rfl) (by decide) (by decide) (by decide) all0 (pc' := 206) rfl ?_
              rintro _ T531 h531 L531 X531 K531 ⟨rfl, -⟩
              have sz_h531 := K531.1
              have K0_h531 : Keep h0 h531 [] := K0_h529.trans K531 all0
              refine k_iload X531 at_206 rfl (pc' := 208) rfl ?_
              have hk : (own_sgn (own_cmp (own_enc x0 x1 na) (own_enc x0 y1 nb))) = (own_sgn (na - nb)) := own_L2 h3a h3b hc472 hc487 (Or.inr hc518)
              refine k_icmpNo X531 at_208 (teq hk).2 (pc' := 211) rfl ?_
              refine k_iconst X531 at_211 (w := (1 : Int32)) rfl (pc' := 212) rfl ?_
              refine k_goto X531 at_212 (pc' := 216) (by decide) (by decide) ?_
              exact k_retHN X531 (w := (1 : Int32)) at_216 (t := .boolean) rfl (by simp) rfl K0_h531 (fun v' C' => ⟨_, rfl, rfl, trivial⟩) (by decide) (by decide)
            · refine k_icmpYes X470 at_153 (feq hc518).2 (pc' := 169) (by decide) (by decide) ?_
              have ea := own_two h3a hc472 hc503
              have eb := own_two h3b hc487 hc518
              refine k_iload X470 at_169 rfl (pc' := 171) rfl ?_
              refine k_iload X470 at_171 rfl (pc' := 173) rfl ?_
              by_cases hc533 : x1 = y1
              · refine k_icmpYes X470 at_173 (teq hc533).1 (pc' := 193) (by decide) (by decide) ?_
                refine k_iconst X470 at_193 (w := (0 : Int32)) rfl (pc' := 194) rfl ?_
                refine k_istore X470 at_194 (Ls' := #[.val (.int p0), .val (.int p1), .val (.int p2), .val (.int p3), .val (.int p4), .val (.int na), .val (.int nb), .val (.int x0), .val (.int x1), .val (.int x0), .val (.int y1), .val (.ref r_456), .val (.ref r_464), .val (.int (0 : Int32))]) rfl (pc' := 196) rfl ?_
                refine k_aload X470 at_196 rfl rfl (pc' := 198) rfl ?_
                refine k_aload X470 at_198 rfl rfl (pc' := 200) rfl ?_
                have c534 := (q462_0.keep K470)
                have c535 := (q462_1.keep K470 nin0)
                have c536 := (q462_2.keep K470 nin0)
                have c537 := (q462_3.keep K470 nin0)
                refine k_callSVF X470 (y := (⟨"com/example/tuned_odds/tunedodds/retrieval/CodePointOrder", "compare", "(Ljava/lang/String;Ljava/lang/String;)I"⟩ : MethodName)) at_200 (w_35 hw) (w_36 hw) (w_37 hw) (w_38 hw) (by decide) (argsL := [(.ref r_456), (.ref r_464)]) (rest := []) (own_cmpc l Z a0 hw G n0 h470 X470.old r_456 r_464 t_457 kt_458 cd_459 zz_460 bs_461 (own_enc x0 x1 na) t_465 kt_466 cd_467 zz_468 bs_469 (own_enc x0 y1 nb) (own_enc_len _ _ _) (own_enc_len _ _ _) (own_enc_chs hx0 hx1) (own_enc_chs hx0 hy1) c534 c535 c536 c537 q462_4 q470_0 q470_1 q470_2 q470_3 q470_4) rfl pd_25 rfl rfl (by decide) (W := 0) (Nat.le_of_eq rfl) (by decide) (by decide) (by decide) all0 (pc' := 203) rfl ?_
                rintro _ T538 h538 L538 X538 K538 ⟨rfl, -⟩
                have sz_h538 := K538.1
                have K0_h538 : Keep h0 h538 [] := K0_h470.trans K538 all0
                refine k_callSVF X538 (y := (⟨"com/example/tuned_odds/tunedodds/retrieval/CodePointOrderComparePinLaw", "sgn", "(I)I"⟩ : MethodName)) at_203 (w_32 hw) (w_33 hw) (w_2 hw) (w_34 hw) (by decide) (argsL := [(.int (own_cmp (own_enc x0 x1 na) (own_enc x0 y1 nb)))]) (rest := []) (own_sgnc l Z a0 hw G n0 h538 X538.old (own_cmp (own_enc x0 x1 na) (own_enc x0 y1 nb)) ) rfl pd_3 rfl rfl (by decide) (W := 0) (Nat.le_of_eq rfl) (by decide) (by decide) (by decide) all0 (pc' := 206) rfl ?_
                rintro _ T540 h540 L540 X540 K540 ⟨rfl, -⟩
                have sz_h540 := K540.1
                have K0_h540 : Keep h0 h540 [] := K0_h538.trans K540 all0
                refine k_iload X540 at_206 rfl (pc' := 208) rfl ?_
                have hk : (own_sgn (own_cmp (own_enc x0 x1 na) (own_enc x0 y1 nb))) = (0 : Int32) := by rw [ea, eb, ← hc533]; exact own_L4
                refine k_icmpNo X540 at_208 (teq hk).2 (pc' := 211) rfl ?_
                refine k_iconst X540 at_211 (w := (1 : Int32)) rfl (pc' := 212) rfl ?_
                refine k_goto X540 at_212 (pc' := 216) (by decide) (by decide) ?_
                exact k_retHN X540 (w := (1 : Int32)) at_216 (t := .boolean) rfl (by simp) rfl K0_h540 (fun v' C' => ⟨_, rfl, rfl, trivial⟩) (by decide) (by decide)
              · refine k_icmpNo X470 at_173 (feq hc533).1 (pc' := 176) rfl ?_
                refine k_iload X470 at_176 rfl (pc' := 178) rfl ?_
                refine k_iload X470 at_178 rfl (pc' := 180) rfl ?_
                by_cases hc542 : x1 < y1
                · refine k_icmpNo X470 at_180 (tlt hc542).2.1 (pc' := 183) rfl ?_
                  refine k_iconst X470 at_183 (w := (-1 : Int32)) rfl (pc' := 184) rfl ?_
                  refine k_goto X470 at_184 (pc' := 188) (by decide) (by decide) ?_
                  refine k_istore X470 at_188 (Ls' := #[.val (.int p0), .val (.int p1), .val (.int p2), .val (.int p3), .val (.int p4), .val (.int na), .val (.int nb), .val (.int x0), .val (.int x1), .val (.int x0), .val (.int y1), .val (.ref r_456), .val (.ref r_464), .val (.int (-1 : Int32))]) rfl (pc' := 190) rfl ?_
                  refine k_goto X470 at_190 (pc' := 196) (by decide) (by decide) ?_
                  refine k_aload X470 at_196 rfl rfl (pc' := 198) rfl ?_
                  refine k_aload X470 at_198 rfl rfl (pc' := 200) rfl ?_
                  have c543 := (q462_0.keep K470)
                  have c544 := (q462_1.keep K470 nin0)
                  have c545 := (q462_2.keep K470 nin0)
                  have c546 := (q462_3.keep K470 nin0)
                  refine k_callSVF X470 (y := (⟨"com/example/tuned_odds/tunedodds/retrieval/CodePointOrder", "compare", "(Ljava/lang/String;Ljava/lang/String;)I"⟩ : MethodName)) at_200 (w_35 hw) (w_36 hw) (w_37 hw) (w_38 hw) (by decide) (argsL := [(.ref r_456), (.ref r_464)]) (rest := []) (own_cmpc l Z a0 hw G n0 h470 X470.old r_456 r_464 t_457 kt_458 cd_459 zz_460 bs_461 (own_enc x0 x1 na) t_465 kt_466 cd_467 zz_468 bs_469 (own_enc x0 y1 nb) (own_enc_len _ _ _) (own_enc_len _ _ _) (own_enc_chs hx0 hx1) (own_enc_chs hx0 hy1) c543 c544 c545 c546 q462_4 q470_0 q470_1 q470_2 q470_3 q470_4) rfl pd_25 rfl rfl (by decide) (W := 0) (Nat.le_of_eq rfl) (by decide) (by decide) (by decide) all0 (pc' := 203) rfl ?_
                  rintro _ T547 h547 L547 X547 K547 ⟨rfl, -⟩
                  have sz_h547 := K547.1
                  have K0_h547 : Keep h0 h547 [] := K0_h470.trans K547 all0
                  refine k_callSVF X547 (y := (⟨"com/example/tuned_odds/tunedodds/retrieval/CodePointOrderComparePinLaw", "sgn", "(I)I"⟩ : MethodName)) at_203 (w_32 hw) (w_33 hw) (w_2 hw) (w_34 hw) (by decide) (argsL := [(.int (own_cmp (own_enc x0 x1 na) (own_enc x0 y1 nb)))]) (rest := []) (own_sgnc l Z a0 hw G n0 h547 X547.old (own_cmp (own_enc x0 x1 na) (own_enc x0 y1 nb)) ) rfl pd_3 rfl rfl (by decide) (W := 0) (Nat.le_of_eq rfl) (by decide) (by decide) (by decide) all0 (pc' := 206) rfl ?_
                  rintro _ T549 h549 L549 X549 K549 ⟨rfl, -⟩
                  have sz_h549 := K549.1
                  have K0_h549 : Keep h0 h549 [] := K0_h547.trans K549 all0
                  refine k_iload X549 at_206 rfl (pc' := 208) rfl ?_
                  have hk : (own_sgn (own_cmp (own_enc x0 x1 na) (own_enc x0 y1 nb))) = (-1 : Int32) := by rw [ea, eb]; exact (own_L3 hx1 hy1 hc533).trans (own_icmp_lt hc542)
                  refine k_icmpNo X549 at_208 (teq hk).2 (pc' := 211) rfl ?_
                  refine k_iconst X549 at_211 (w := (1 : Int32)) rfl (pc' := 212) rfl ?_
                  refine k_goto X549 at_212 (pc' := 216) (by decide) (by decide) ?_
                  exact k_retHN X549 (w := (1 : Int32)) at_216 (t := .boolean) rfl (by simp) rfl K0_h549 (fun v' C' => ⟨_, rfl, rfl, trivial⟩) (by decide) (by decide)
                · refine k_icmpYes X470 at_180 (flt hc542).2.1 (pc' := 187) (by decide) (by decide) ?_
                  refine k_iconst X470 at_187 (w := (1 : Int32)) rfl (pc' := 188) rfl ?_
                  refine k_istore X470 at_188 (Ls' := #[.val (.int p0), .val (.int p1), .val (.int p2), .val (.int p3), .val (.int p4), .val (.int na), .val (.int nb), .val (.int x0), .val (.int x1), .val (.int x0), .val (.int y1), .val (.ref r_456), .val (.ref r_464), .val (.int (1 : Int32))]) rfl (pc' := 190) rfl ?_
                  refine k_goto X470 at_190 (pc' := 196) (by decide) (by decide) ?_
                  refine k_aload X470 at_196 rfl rfl (pc' := 198) rfl ?_
                  refine k_aload X470 at_198 rfl rfl (pc' := 200) rfl ?_
                  have c551 := (q462_0.keep K470)
                  have c552 := (q462_1.keep K470 nin0)
                  have c553 := (q462_2.keep K470 nin0)
                  have c554 := (q462_3.keep K470 nin0)
                  refine k_callSVF X470 (y := (⟨"com/example/tuned_odds/tunedodds/retrieval/CodePointOrder", "compare", "(Ljava/lang/String;Ljava/lang/String;)I"⟩ : MethodName)) at_200 (w_35 hw) (w_36 hw) (w_37 hw) (w_38 hw) (by decide) (argsL := [(.ref r_456), (.ref r_464)]) (rest := []) (own_cmpc l Z a0 hw G n0 h470 X470.old r_456 r_464 t_457 kt_458 cd_459 zz_460 bs_461 (own_enc x0 x1 na) t_465 kt_466 cd_467 zz_468 bs_469 (own_enc x0 y1 nb) (own_enc_len _ _ _) (own_enc_len _ _ _) (own_enc_chs hx0 hx1) (own_enc_chs hx0 hy1) c551 c552 c553 c554 q462_4 q470_0 q470_1 q470_2 q470_3 q470_4) rfl pd_25 rfl rfl (by decide) (W := 0) (Nat.le_of_eq rfl) (by decide) (by decide) (by decide) all0 (pc' := 203) rfl ?_
                  rintro _ T555 h555 L555 X555 K555 ⟨rfl, -⟩
                  have sz_h555 := K555.1
                  have K0_h555 : Keep h0 h555 [] := K0_h470.trans K555 all0
                  refine k_callSVF X555 (y := (⟨"com/example/tuned_odds/tunedodds/retrieval/CodePointOrderComparePinLaw", "sgn", "(I)I"⟩ : MethodName)) at_203 (w_32 hw) (w_33 hw) (w_2 hw) (w_34 hw) (by decide) (argsL := [(.int (own_cmp (own_enc x0 x1 na) (own_enc x0 y1 nb)))]) (rest := []) (own_sgnc l Z a0 hw G n0 h555 X555.old (own_cmp (own_enc x0 x1 na) (own_enc x0 y1 nb)) ) rfl pd_3 rfl rfl (by decide) (W := 0) (Nat.le_of_eq rfl) (by decide) (by decide) (by decide) all0 (pc' := 206) rfl ?_
                  rintro _ T557 h557 L557 X557 K557 ⟨rfl, -⟩
                  have sz_h557 := K557.1
                  have K0_h557 : Keep h0 h557 [] := K0_h555.trans K557 all0
                  refine k_iload X557 at_206 rfl (pc' := 208) rfl ?_
                  have hk : (own_sgn (own_cmp (own_enc x0 x1 na) (own_enc x0 y1 nb))) = (1 : Int32) := by rw [ea, eb]; exact (own_L3 hx1 hy1 hc533).trans (own_icmp_gt hc542 hc533)
                  refine k_icmpNo X557 at_208 (teq hk).2 (pc' := 211) rfl ?_
                  refine k_iconst X557 at_211 (w := (1 : Int32)) rfl (pc' := 212) rfl ?_
                  refine k_goto X557 at_212 (pc' := 216) (by decide) (by decide) ?_
                  exact k_retHN X557 (w := (1 : Int32)) at_216 (t := .boolean) rfl (by simp) rfl K0_h557 (fun v' C' => ⟨_, rfl, rfl, trivial⟩) (by decide) (by decide)
        · refine k_icmpNo X470 at_124 (feq hc502).1 (pc' := 127) rfl ?_
          refine k_iload X470 at_127 rfl (pc' := 129) rfl ?_
          refine k_iload X470 at_129 rfl (pc' := 131) rfl ?_
          by_cases hc559 : x0 < y0
          · refine k_icmpNo X470 at_131 (tlt hc559).2.1 (pc' := 134) rfl ?_
            refine k_iconst X470 at_134 (w := (-1 : Int32)) rfl (pc' := 135) rfl ?_
            refine k_goto X470 at_135 (pc' := 139) (by decide) (by decide) ?_
            refine k_istore X470 at_139 (Ls' := #[.val (.int p0), .val (.int p1), .val (.int p2), .val (.int p3), .val (.int p4), .val (.int na), .val (.int nb), .val (.int x0), .val (.int x1), .val (.int y0), .val (.int y1), .val (.ref r_456), .val (.ref r_464), .val (.int (-1 : Int32))]) rfl (pc' := 141) rfl ?_
            refine k_goto X470 at_141 (pc' := 196) (by decide) (by decide) ?_
            refine k_aload X470 at_196 rfl rfl (pc' := 198) rfl ?_
            refine k_aload X470 at_198 rfl rfl (pc' := 200) rfl ?_
            have c560 := (q462_0.keep K470)
            have c561 := (q462_1.keep K470 nin0)
            have c562 := (q462_2.keep K470 nin0)
            have c563 := (q462_3.keep K470 nin0)
            refine k_callSVF X470 (y := (⟨"com/example/tuned_odds/tunedodds/retrieval/CodePointOrder", "compare", "(Ljava/lang/String;Ljava/lang/String;)I"⟩ : MethodName)) at_200 (w_35 hw) (w_36 hw) (w_37 hw) (w_38 hw) (by decide) (argsL := [(.ref r_456), (.ref r_464)]) (rest := []) (own_cmpc l Z a0 hw G n0 h470 X470.old r_456 r_464 t_457 kt_458 cd_459 zz_460 bs_461 (own_enc x0 x1 na) t_465 kt_466 cd_467 zz_468 bs_469 (own_enc y0 y1 nb) (own_enc_len _ _ _) (own_enc_len _ _ _) (own_enc_chs hx0 hx1) (own_enc_chs hy0 hy1) c560 c561 c562 c563 q462_4 q470_0 q470_1 q470_2 q470_3 q470_4) rfl pd_25 rfl rfl (by decide) (W := 0) (Nat.le_of_eq rfl) (by decide) (by decide) (by decide) all0 (pc' := 203) rfl ?_
            rintro _ T564 h564 L564 X564 K564 ⟨rfl, -⟩
            have sz_h564 := K564.1
            have K0_h564 : Keep h0 h564 [] := K0_h470.trans K564 all0
            refine k_callSVF X564 (y := (⟨"com/example/tuned_odds/tunedodds/retrieval/CodePointOrderComparePinLaw", "sgn", "(I)I"⟩ : MethodName)) at_203 (w_32 hw) (w_33 hw) (w_2 hw) (w_34 hw) (by decide) (argsL := [(.int (own_cmp (own_enc x0 x1 na) (own_enc y0 y1 nb)))]) (rest := []) (own_sgnc l Z a0 hw G n0 h564 X564.old (own_cmp (own_enc x0 x1 na) (own_enc y0 y1 nb)) ) rfl pd_3 rfl rfl (by decide) (W := 0) (Nat.le_of_eq rfl) (by decide) (by decide) (by decide) all0 (pc' := 206) rfl ?_
            rintro _ T566 h566 L566 X566 K566 ⟨rfl, -⟩
            have sz_h566 := K566.1
            have K0_h566 : Keep h0 h566 [] := K0_h564.trans K566 all0
            refine k_iload X566 at_206 rfl (pc' := 208) rfl ?_
            have hk : (own_sgn (own_cmp (own_enc x0 x1 na) (own_enc y0 y1 nb))) = (-1 : Int32) := (own_L1 h3a h3b hc472 hc487 hx0 hy0 hc502).trans (own_icmp_lt hc559)
            refine k_icmpNo X566 at_208 (teq hk).2 (pc' := 211) rfl ?_
            refine k_iconst X566 at_211 (w := (1 : Int32)) rfl (pc' := 212) rfl ?_
            refine k_goto X566 at_212 (pc' := 216) (by decide) (by decide) ?_
            exact k_retHN X566 (w := (1 : Int32)) at_216 (t := .boolean) rfl (by simp) rfl K0_h566 (fun v' C' => ⟨_, rfl, rfl, trivial⟩) (by decide) (by decide)
          · refine k_icmpYes X470 at_131 (flt hc559).2.1 (pc' := 138) (by decide) (by decide) ?_
            refine k_iconst X470 at_138 (w := (1 : Int32)) rfl (pc' := 139) rfl ?_
            refine k_istore X470 at_139 (Ls' := #[.val (.int p0), .val (.int p1), .val (.int p2), .val (.int p3), .val (.int p4), .val (.int na), .val (.int nb), .val (.int x0), .val (.int x1), .val (.int y0), .val (.int y1), .val (.ref r_456), .val (.ref r_464), .val (.int (1 : Int32))]) rfl (pc' := 141) rfl ?_
            refine k_goto X470 at_141 (pc' := 196) (by decide) (by decide) ?_
            refine k_aload X470 at_196 rfl rfl (pc' := 198) rfl ?_
            refine k_aload X470 at_198 rfl rfl (pc' := 200) rfl ?_
            have c568 := (q462_0.keep K470)
            have c569 := (q462_1.keep K470 nin0)
            have c570 := (q462_2.keep K470 nin0)
            have c571 := (q462_3.keep K470 nin0)
            refine k_callSVF X470 (y := (⟨"com/example/tuned_odds/tunedodds/retrieval/CodePointOrder", "compare", "(Ljava/lang/String;Ljava/lang/String;)I"⟩ : MethodName)) at_200 (w_35 hw) (w_36 hw) (w_37 hw) (w_38 hw) (by decide) (argsL := [(.ref r_456), (.ref r_464)]) (rest := []) (own_cmpc l Z a0 hw G n0 h470 X470.old r_456 r_464 t_457 kt_458 cd_459 zz_460 bs_461 (own_enc x0 x1 na) t_465 kt_466 cd_467 zz_468 bs_469 (own_enc y0 y1 nb) (own_enc_len _ _ _) (own_enc_len _ _ _) (own_enc_chs hx0 hx1) (own_enc_chs hy0 hy1) c568 c569 c570 c571 q462_4 q470_0 q470_1 q470_2 q470_3 q470_4) rfl pd_25 rfl rfl (by decide) (W := 0) (Nat.le_of_eq rfl) (by decide) (by decide) (by decide) all0 (pc' := 203) rfl ?_
            rintro _ T572 h572 L572 X572 K572 ⟨rfl, -⟩
            have sz_h572 := K572.1
            have K0_h572 : Keep h0 h572 [] := K0_h470.trans K572 all0
            refine k_callSVF X572 (y := (⟨"com/example/tuned_odds/tunedodds/retrieval/CodePointOrderComparePinLaw", "sgn", "(I)I"⟩ : MethodName)) at_203 (w_32 hw) (w_33 hw) (w_2 hw) (w_34 hw) (by decide) (argsL := [(.int (own_cmp (own_enc x0 x1 na) (own_enc y0 y1 nb)))]) (rest := []) (own_sgnc l Z a0 hw G n0 h572 X572.old (own_cmp (own_enc x0 x1 na) (own_enc y0 y1 nb)) ) rfl pd_3 rfl rfl (by decide) (W := 0) (Nat.le_of_eq rfl) (by decide) (by decide) (by decide) all0 (pc' := 206) rfl ?_
            rintro _ T574 h574 L574 X574 K574 ⟨rfl, -⟩
            have sz_h574 := K574.1
            have K0_h574 : Keep h0 h574 [] := K0_h572.trans K574 all0
            refine k_iload X574 at_206 rfl (pc' := 208) rfl ?_
            have hk : (own_sgn (own_cmp (own_enc x0 x1 na) (own_enc y0 y1 nb))) = (1 : Int32) := (own_L1 h3a h3b hc472 hc487 hx0 hy0 hc502).trans (own_icmp_gt hc559 hc502)
            refine k_icmpNo X574 at_208 (teq hk).2 (pc' := 211) rfl ?_
            refine k_iconst X574 at_211 (w := (1 : Int32)) rfl (pc' := 212) rfl ?_
            refine k_goto X574 at_212 (pc' := 216) (by decide) (by decide) ?_
            exact k_retHN X574 (w := (1 : Int32)) at_216 (t := .boolean) rfl (by simp) rfl K0_h574 (fun v' C' => ⟨_, rfl, rfl, trivial⟩) (by decide) (by decide)
  obtain ⟨na, hna⟩ : ∃ z, (p4 &&& (255 : Int32)) - ((p4 &&& (255 : Int32)) / (3 : Int32)) * (3 : Int32) = z := ⟨_, rfl⟩
  have h3na : own_3 na := hna ▸ own_rem3 _
  obtain ⟨nb, hnb⟩ : ∃ z, (((p4.toUInt32 >>> ((8 : Int32) &&& 31).toUInt32).toInt32) &&& (255 : Int32)) - ((((p4.toUInt32 >>> ((8 : Int32) &&& 31).toUInt32).toInt32) &&& (255 : Int32)) / (3 : Int32)) * (3 : Int32) = z := ⟨_, rfl⟩
  have h3nb : own_3 nb := hnb ▸ own_rem3 _
  refine k_iload X0 at_0 rfl (pc' := 2) rfl ?_
  refine k_sipush X0 at_2 (w := (255 : Int32)) rfl (pc' := 5) rfl ?_
  refine k_iand X0 at_5 (w := (p4 &&& (255 : Int32))) rfl (pc' := 6) rfl ?_
  refine k_iconst X0 at_6 (w := (3 : Int32)) rfl (pc' := 7) rfl ?_
  refine k_irem X0 at_7 (by decide) (w := na) hna (pc' := 8) rfl ?_
  refine k_istore X0 at_8 (Ls' := #[.val (.int p0), .val (.int p1), .val (.int p2), .val (.int p3), .val (.int p4), .val (.int na), .unset, .unset, .unset, .unset, .unset, .unset, .unset, .unset]) rfl (pc' := 10) rfl ?_
  refine k_iload X0 at_10 rfl (pc' := 12) rfl ?_
  refine k_bipush X0 at_12 (w := (8 : Int32)) rfl (pc' := 14) rfl ?_
  refine k_iushr X0 at_14 (w := ((p4.toUInt32 >>> ((8 : Int32) &&& 31).toUInt32).toInt32)) rfl (pc' := 15) rfl ?_
  refine k_sipush X0 at_15 (w := (255 : Int32)) rfl (pc' := 18) rfl ?_
  refine k_iand X0 at_18 (w := (((p4.toUInt32 >>> ((8 : Int32) &&& 31).toUInt32).toInt32) &&& (255 : Int32))) rfl (pc' := 19) rfl ?_
  refine k_iconst X0 at_19 (w := (3 : Int32)) rfl (pc' := 20) rfl ?_
  refine k_irem X0 at_20 (by decide) (w := nb) hnb (pc' := 21) rfl ?_
  refine k_istore X0 at_21 (Ls' := #[.val (.int p0), .val (.int p1), .val (.int p2), .val (.int p3), .val (.int p4), .val (.int na), .val (.int nb), .unset, .unset, .unset, .unset, .unset, .unset, .unset]) rfl (pc' := 23) rfl ?_
  refine k_iloadN X0 at_23 rfl (pc' := 24) rfl ?_
  refine k_callSVF X0 (y := (⟨"com/example/tuned_odds/tunedodds/retrieval/CodePointOrderComparePinLaw", "cp", "(I)I"⟩ : MethodName)) at_24 (w_0 hw) (w_1 hw) (w_2 hw) (w_3 hw) (by decide) (argsL := [(.int p0)]) (rest := []) (own_cpc l Z a0 hw G n0 h0 X0.old p0 ) rfl pd_3 rfl rfl (by decide) (W := 0) (Nat.le_of_eq rfl) (by decide) (by decide) (by decide) all0 (pc' := 27) rfl ?_
  rintro _ T577 h577 L577 X577 K577 ⟨c0_576, rfl, q577_0⟩
  have sz_h577 := K577.1
  have K0_h577 : Keep h0 h577 [] := K0_h0.trans K577 all0
  refine k_istore X577 at_27 (Ls' := #[.val (.int p0), .val (.int p1), .val (.int p2), .val (.int p3), .val (.int p4), .val (.int na), .val (.int nb), .val (.int c0_576), .unset, .unset, .unset, .unset, .unset, .unset]) rfl (pc' := 29) rfl ?_
  refine k_iloadN X577 at_29 rfl (pc' := 30) rfl ?_
  refine k_callSVF X577 (y := (⟨"com/example/tuned_odds/tunedodds/retrieval/CodePointOrderComparePinLaw", "cp", "(I)I"⟩ : MethodName)) at_30 (w_0 hw) (w_1 hw) (w_2 hw) (w_3 hw) (by decide) (argsL := [(.int p1)]) (rest := []) (own_cpc l Z a0 hw G n0 h577 X577.old p1 ) rfl pd_3 rfl rfl (by decide) (W := 0) (Nat.le_of_eq rfl) (by decide) (by decide) (by decide) all0 (pc' := 33) rfl ?_
  rintro _ T580 h580 L580 X580 K580 ⟨c0_579, rfl, q580_0⟩
  have sz_h580 := K580.1
  have K0_h580 : Keep h0 h580 [] := K0_h577.trans K580 all0
  refine k_istore X580 at_33 (Ls' := #[.val (.int p0), .val (.int p1), .val (.int p2), .val (.int p3), .val (.int p4), .val (.int na), .val (.int nb), .val (.int c0_576), .val (.int c0_579), .unset, .unset, .unset, .unset, .unset]) rfl (pc' := 35) rfl ?_
  refine k_iloadN X580 at_35 rfl (pc' := 36) rfl ?_
  refine k_callSVF X580 (y := (⟨"com/example/tuned_odds/tunedodds/retrieval/CodePointOrderComparePinLaw", "cp", "(I)I"⟩ : MethodName)) at_36 (w_0 hw) (w_1 hw) (w_2 hw) (w_3 hw) (by decide) (argsL := [(.int p2)]) (rest := []) (own_cpc l Z a0 hw G n0 h580 X580.old p2 ) rfl pd_3 rfl rfl (by decide) (W := 0) (Nat.le_of_eq rfl) (by decide) (by decide) (by decide) all0 (pc' := 39) rfl ?_
  rintro _ T583 h583 L583 X583 K583 ⟨c0_582, rfl, q583_0⟩
  have sz_h583 := K583.1
  have K0_h583 : Keep h0 h583 [] := K0_h580.trans K583 all0
  refine k_istore X583 at_39 (Ls' := #[.val (.int p0), .val (.int p1), .val (.int p2), .val (.int p3), .val (.int p4), .val (.int na), .val (.int nb), .val (.int c0_576), .val (.int c0_579), .val (.int c0_582), .unset, .unset, .unset, .unset]) rfl (pc' := 41) rfl ?_
  refine k_iloadN X583 at_41 rfl (pc' := 42) rfl ?_
  refine k_callSVF X583 (y := (⟨"com/example/tuned_odds/tunedodds/retrieval/CodePointOrderComparePinLaw", "cp", "(I)I"⟩ : MethodName)) at_42 (w_0 hw) (w_1 hw) (w_2 hw) (w_3 hw) (by decide) (argsL := [(.int p3)]) (rest := []) (own_cpc l Z a0 hw G n0 h583 X583.old p3 ) rfl pd_3 rfl rfl (by decide) (W := 0) (Nat.le_of_eq rfl) (by decide) (by decide) (by decide) all0 (pc' := 45) rfl ?_
  rintro _ T586 h586 L586 X586 K586 ⟨c0_585, rfl, q586_0⟩
  have sz_h586 := K586.1
  have K0_h586 : Keep h0 h586 [] := K0_h583.trans K586 all0
  refine k_istore X586 at_45 (Ls' := #[.val (.int p0), .val (.int p1), .val (.int p2), .val (.int p3), .val (.int p4), .val (.int na), .val (.int nb), .val (.int c0_576), .val (.int c0_579), .val (.int c0_582), .val (.int c0_585), .unset, .unset, .unset]) rfl (pc' := 47) rfl ?_
  refine k_iload X586 at_47 rfl (pc' := 49) rfl ?_
  refine k_bipush X586 at_49 (w := (16 : Int32)) rfl (pc' := 51) rfl ?_
  refine k_iushr X586 at_51 (w := ((p4.toUInt32 >>> ((16 : Int32) &&& 31).toUInt32).toInt32)) rfl (pc' := 52) rfl ?_
  refine k_iconst X586 at_52 (w := (1 : Int32)) rfl (pc' := 53) rfl ?_
  refine k_iand X586 at_53 (w := (((p4.toUInt32 >>> ((16 : Int32) &&& 31).toUInt32).toInt32) &&& (1 : Int32))) rfl (pc' := 54) rfl ?_
  by_cases hc588 : (((p4.toUInt32 >>> ((16 : Int32) &&& 31).toUInt32).toInt32) &&& (1 : Int32)) = (0 : Int32)
  · refine k_ifYes X586 at_54 ((if0 _ _).trans (teq hc588).1) (pc' := 61) (by decide) (by decide) ?_
    refine k_iload X586 at_61 rfl (pc' := 63) rfl ?_
    refine k_bipush X586 at_63 (w := (17 : Int32)) rfl (pc' := 65) rfl ?_
    refine k_iushr X586 at_65 (w := ((p4.toUInt32 >>> ((17 : Int32) &&& 31).toUInt32).toInt32)) rfl (pc' := 66) rfl ?_
    refine k_iconst X586 at_66 (w := (1 : Int32)) rfl (pc' := 67) rfl ?_
    refine k_iand X586 at_67 (w := (((p4.toUInt32 >>> ((17 : Int32) &&& 31).toUInt32).toInt32) &&& (1 : Int32))) rfl (pc' := 68) rfl ?_
    by_cases hc589 : (((p4.toUInt32 >>> ((17 : Int32) &&& 31).toUInt32).toInt32) &&& (1 : Int32)) = (0 : Int32)
    · refine k_ifYes X586 at_68 ((if0 _ _).trans (teq hc589).1) (pc' := 75) (by decide) (by decide) ?_
      exact mid _ _ _ _ _ _ _ _ _ _ h3na h3nb q577_0 q580_0 q583_0 q586_0 (X586.up (by decide) (by decide)) K0_h586
    · refine k_ifNo X586 at_68 ((if0 _ _).trans (feq hc589).1) (pc' := 71) rfl ?_
      refine k_iload X586 at_71 rfl (pc' := 73) rfl ?_
      refine k_istore X586 at_73 (Ls' := #[.val (.int p0), .val (.int p1), .val (.int p2), .val (.int p3), .val (.int p4), .val (.int na), .val (.int nb), .val (.int c0_576), .val (.int c0_579), .val (.int c0_582), .val (.int c0_579), .unset, .unset, .unset]) rfl (pc' := 75) rfl ?_
      exact mid _ _ _ _ _ _ _ _ _ _ h3na h3nb q577_0 q580_0 q583_0 q580_0 (X586.up (by decide) (by decide)) K0_h586
  · refine k_ifNo X586 at_54 ((if0 _ _).trans (feq hc588).1) (pc' := 57) rfl ?_
    refine k_iload X586 at_57 rfl (pc' := 59) rfl ?_
    refine k_istore X586 at_59 (Ls' := #[.val (.int p0), .val (.int p1), .val (.int p2), .val (.int p3), .val (.int p4), .val (.int na), .val (.int nb), .val (.int c0_576), .val (.int c0_579), .val (.int c0_576), .val (.int c0_585), .unset, .unset, .unset]) rfl (pc' := 61) rfl ?_
    refine k_iload X586 at_61 rfl (pc' := 63) rfl ?_
    refine k_bipush X586 at_63 (w := (17 : Int32)) rfl (pc' := 65) rfl ?_
    refine k_iushr X586 at_65 (w := ((p4.toUInt32 >>> ((17 : Int32) &&& 31).toUInt32).toInt32)) rfl (pc' := 66) rfl ?_
    refine k_iconst X586 at_66 (w := (1 : Int32)) rfl (pc' := 67) rfl ?_
    refine k_iand X586 at_67 (w := (((p4.toUInt32 >>> ((17 : Int32) &&& 31).toUInt32).toInt32) &&& (1 : Int32))) rfl (pc' := 68) rfl ?_
    by_cases hc590 : (((p4.toUInt32 >>> ((17 : Int32) &&& 31).toUInt32).toInt32) &&& (1 : Int32)) = (0 : Int32)
    · refine k_ifYes X586 at_68 ((if0 _ _).trans (teq hc590).1) (pc' := 75) (by decide) (by decide) ?_
      exact mid _ _ _ _ _ _ _ _ _ _ h3na h3nb q577_0 q580_0 q577_0 q586_0 (X586.up (by decide) (by decide)) K0_h586
    · refine k_ifNo X586 at_68 ((if0 _ _).trans (feq hc590).1) (pc' := 71) rfl ?_
      refine k_iload X586 at_71 rfl (pc' := 73) rfl ?_
      refine k_istore X586 at_73 (Ls' := #[.val (.int p0), .val (.int p1), .val (.int p2), .val (.int p3), .val (.int p4), .val (.int na), .val (.int nb), .val (.int c0_576), .val (.int c0_579), .val (.int c0_576), .val (.int c0_579), .unset, .unset, .unset]) rfl (pc' := 75) rfl ?_
      exact mid _ _ _ _ _ _ _ _ _ _ h3na h3nb q577_0 q580_0 q577_0 q580_0 (X586.up (by decide) (by decide)) K0_h586
set_option maxRecDepth 65536 in
set_option maxHeartbeats 40000000 in
theorem comes_1 {Post : Tables → Env → Array Value → State → Outcome → State → Prop} (hpost : ∀ tb e args s v u, (limb_1_1.after args s (.returned v) u = true ∧ limb_1_2.after args s (.returned v) u = true ∧ True) → ReturnedEndW s (.returned v) u (Jvm.fieldLocs frame_1_writes args s ++ Jvm.arrayLocs frame_1_arrays args s ++ Jvm.staticLocs frame_1_statics s) 32 1216 → Post tb e args s (.returned v) u) :
    ArmFor flags0 classFile x code maxLocals ret World_1 tables_1 room_1 Calls_1 rest_1 Pre_1 Post := by
  intro l hfl _ _ p e ha hc hk s m args below hf hA hF happ hP
  obtain ⟨hcalls, hrest, hpre⟩ := hP
  obtain ⟨-, -, -, hnamed, -, -, -, hat⟩ := (Spec.applies_iff hf).mp happ
  obtain ⟨hg, hn⟩ := and_e (Cond.before_iff.mp (show (Jvm.Cond.and given_1 narrow_1).before args s = true from hpre))
  obtain ⟨hcnt, g0⟩ := and_e hg
  obtain ⟨j0, g1⟩ := and_e g0
  obtain ⟨j1, g2⟩ := and_e g1
  obtain ⟨j2, g3⟩ := and_e g2
  obtain ⟨j3, g4⟩ := and_e g3
  obtain ⟨w0, w1, w2, w3, w4, rfl⟩ : ∃ w0 w1 w2 w3 w4 : Value, args = #[w0, w1, w2, w3, w4] := by
    have hs : args.size = 5 := by simpa [Cond.value, given_1] using hcnt
    obtain ⟨L⟩ := args
    match L, hs with
    | [w0, w1, w2, w3, w4], _ => exact ⟨w0, w1, w2, w3, w4, rfl⟩
  have hw := fun d (hd : d ∈ tables_1) => atoms_spec (ws := Jvm.Cond.code x code maxLocals ret :: tables_1) hat d (List.mem_cons_of_mem _ hd)
  obtain ⟨hsets, hown0⟩ := atoms_of _ (rest_1_c_eq ▸ (show rest_1_c.before _ s = true from hrest))
  have hfit : Fit s := fun {y c} hc i hi => by
    obtain ⟨ha, rfl⟩ := Array.getElem?_eq_some_iff.mp hc
    have q := List.all_eq_true.mp ((Array.all_eq_true_iff_forall_mem.mp hF) _ (Array.getElem_mem ha)) i (List.mem_range.mpr hi)
    simpa [Array.getElem?_eq_getElem hi] using q
  obtain ⟨i0, e0⟩ := is_v j0
  obtain rfl : w0 = (.int i0) := Option.some.inj e0
  obtain ⟨i1, e1⟩ := is_v j1
  obtain rfl : w1 = (.int i1) := Option.some.inj e1
  obtain ⟨i2, e2⟩ := is_v j2
  obtain rfl : w2 = (.int i2) := Option.some.inj e2
  obtain ⟨i3, e3⟩ := is_v j3
  obtain rfl : w3 = (.int i3) := Option.some.inj e3
  obtain ⟨i4, e4⟩ := is_v g4
  obtain rfl : w4 = (.int i4) := Option.some.inj e4
  obtain ⟨zc, ezc⟩ := is_v (Cond.before_iff.mp (hsets _ (List.mem_of_getElem? (i := 1) rfl)))
  have nzc := not_v (Cond.before_iff.mp (hsets _ (List.mem_of_getElem? (i := 2) rfl)))
  obtain ⟨fm, efm, rfm⟩ := isR_v (Cond.before_iff.mp (hsets _ (List.mem_of_getElem? (i := 8) rfl)))
  have G : Gl s zc fm := ⟨Sta.start ezc (Or.inl (hsets _ (List.mem_of_getElem? (i := 0) rfl))), gotF (Cond.eq_ints ezc (Term.int_eval (0))) nzc, Sta.start efm (Or.inl (hsets _ (List.mem_of_getElem? (i := 7) rfl))), rfm, Sta.start (own_eq_int (Cond.before_iff.mp (hsets _ (List.mem_of_getElem? (i := 12) rfl)))) (Or.inl (hsets _ (List.mem_of_getElem? (i := 11) rfl))), Sta.start (own_eq_int (Cond.before_iff.mp (hsets _ (List.mem_of_getElem? (i := 15) rfl)))) (Or.inl (hsets _ (List.mem_of_getElem? (i := 14) rfl))), Sta.start (own_eq_int (Cond.before_iff.mp (hsets _ (List.mem_of_getElem? (i := 18) rfl)))) (Or.inl (hsets _ (List.mem_of_getElem? (i := 17) rfl)))⟩
  have hh := hcalls.1
  have hcw : Jvm.Lit.compactW.before #[(.int i0), (.int i1), (.int i2), (.int i3), (.int i4)] s = true := hsets _ (List.mem_of_getElem? (i := 2) rfl)
  have hCH : CHv s EL s.vm s.heap := CHv.start (hEL hw) (fun q hq => hh q (own_ELsub q hq)) hcw (w_25 hw) (w_11 hw)
  obtain ⟨n, o, r1, r2, r3, _, L, rfl, ⟨⟨-, w, rfl, rfl, -⟩, N⟩, -, hq⟩ := own_law l s _ hw G s.heap.size s.heap (Old.start s) i0 i1 i2 i3 i4 p e ha hc hk s m _ below hf ((Spec.applies_iff_loose hf).mp happ).1 ⟨rfl, State.Warmed39.refl s, rfl, hCH, fun _ q => nomatch q⟩ trivial
  exact ⟨n, _, r1, r2, r3, hpost _ _ _ _ _ _ ⟨Cond.after_iff.mpr rfl, Cond.after_iff.mpr (eq_i res_at (Term.int_eval (1)) rfl), trivial⟩ ⟨hq.1, hq.2.1, hq.2.2.1, (hq.2.2.2.sift fun y hy => Or.inr (N y hy)).mono (by decide) (by decide)⟩⟩
theorem main_1_1 : Claimed_1_1 := comes_1 fun _ _ _ _ _ _ h hF => ⟨h.1, hF⟩
theorem main_1_2 : Claimed_1_2 := comes_1 fun _ _ _ _ _ _ h hF => ⟨h.2.1, hF⟩
end OwnProof
end Jvm.Pilot.@@N@@
namespace Jvm.Pilot.@@N@@
open Jvm Jvm.ClassFile Sem Op Lib Jvm.Free Jvm.Stand Jvm.Pilot.@@N@@.Jvm.D
/-! MADE BY PROGRAM (witnessworld.py) out of the Statement's table words and the real class files: 24 classes; the members and pool entries that the words name. The judged class is class 1, her method 1. -/
namespace start1
open Jvm.ClassFile
def u (s : String) : CpInfo := .utf8 (stringToUtf16 s)
/-- a pool by its gaps: so many unusable entries, then the entry; so many at the end -/
def gap : Nat → List CpInfo → List CpInfo
  | 0, r => r
  | n + 1, r => .unusable :: gap n r
def poolList (es : List (Nat × CpInfo)) (last : Nat) : List CpInfo := es.foldr (fun e r => gap e.1 (e.2 :: r)) (gap last [])
def pool (es : List (Nat × CpInfo)) (last : Nat) : Array CpInfo := ⟨poolList es last⟩
def fileOf (pool : Array CpInfo) (this : Nat) (attrs : Array Attribute := #[]) (ms : Array MethodInfo := #[]) (fl : Nat := 33) (sup : Nat := 0) (ifs : Array Nat := #[]) (fds : Array FieldInfo := #[]) : ClassFile where
  minorVersion := 0
  majorVersion := 65
  constantPool := pool
  accessFlags := fl
  thisClass := this
  superClass := sup
  interfaces := ifs
  fields := fds
  methods := ms
  attributes := attrs
def plain (name : String) (sup : Option ClassId) : Class where
  name := name
  kind := .ordinary
  loader := none
  accessFlags := 33
  super := sup
  interfaces := #[]
  cf := none
  fields := #[]
  methods := #[]
  instanceTypes := #[]
  staticTypes := #[]
  resolved := #[]
  callSites := []
  init := .initialized
  statics := none
  mirror := none

def pool0 : Array CpInfo := pool [(5, u "<init>"), (0, u "()V"), (1, .class_ 10), (1, u "java/lang/Object")] 113

def k0c0 : Code := { maxStack := 0, maxLocals := 1, code := object_method_1_code, exceptionTable := #[], attributes := #[] }
def k0m0 : Method := { name := "<init>", desc := "()V", sig := { parameters := [], returnType := none }, accessFlags := 1, code := some k0c0 }
/-- java/lang/Object -/
def k0 : Class := { plain "java/lang/Object" none with
  accessFlags := 33
  interfaces := #[]
  cf := some (fileOf pool0 8 #[] #[{ accessFlags := 1, nameIndex := 5, descriptorIndex := 6, attributes := #[] }] 33 0 #[] #[])
  fields := #[]
  methods := #[k0m0]
  instanceTypes := #[]
  staticTypes := #[]
  resolved := Array.replicate 124 none
  statics := none }

def pool1 : Array CpInfo := pool [(2, .class_ 4), (1, u "java/lang/Object"), (0, u "<init>"), (0, u "()V"), (0, .methodref 8 9), (0, .class_ 10), (0, .nameAndType 11 12), (0, u "com/example/tuned_odds/tunedodds/retrieval/CodePointOrderComparePinLaw"), (0, u "cp"), (0, u "(I)I"), (0, .methodref 8 14), (0, .nameAndType 15 16), (0, u "enc"), (0, u "(III)Ljava/lang/String;"), (0, .methodref 8 18), (0, .nameAndType 19 12), (0, u "sgn"), (0, .methodref 21 22), (0, .class_ 23), (0, .nameAndType 24 25), (0, u "com/example/tuned_odds/tunedodds/retrieval/CodePointOrder"), (0, u "compare"), (0, u "(Ljava/lang/String;Ljava/lang/String;)I"), (0, .integer 2147483647), (0, .integer 1112064), (0, .integer 55296), (0, .integer 65536), (0, .integer 56320), (0, .methodref 32 33), (0, .class_ 34), (0, .nameAndType 35 36), (0, u "java/lang/String"), (0, u "valueOf"), (0, u "(C)Ljava/lang/String;"), (0, .methodref 8 38), (0, .nameAndType 39 40), (0, u "hi"), (0, u "(I)C"), (0, .methodref 8 42), (0, .nameAndType 43 40), (0, u "lo"), (0, .methodref 32 45), (0, .nameAndType 5 46), (0, u "([C)V"), (0, .methodref 8 48), (0, .nameAndType 49 50), (0, u "one"), (0, u "(I)Ljava/lang/String;"), (2, u "law"), (0, u "(IIIII)Z")] 3

def k1m0 : Method := { name := "<init>", desc := "()V", sig := { parameters := [], returnType := none }, accessFlags := 2, code := none }
def k1c1 : Code := { maxStack := 3, maxLocals := 14, code := code, exceptionTable := #[], attributes := #[] }
def k1m1 : Method := { name := "law", desc := "(IIIII)Z", sig := { parameters := [.int, .int, .int, .int, .int], returnType := some .boolean }, accessFlags := 9, code := some k1c1 }
def k1c2 : Code := { maxStack := 2, maxLocals := 2, code := method_3_code, exceptionTable := #[], attributes := #[] }
def k1m2 : Method := { name := "cp", desc := "(I)I", sig := { parameters := [.int], returnType := some .int }, accessFlags := 10, code := some k1c2 }
def k1c3 : Code := { maxStack := 1, maxLocals := 1, code := method_4_code, exceptionTable := #[], attributes := #[] }
def k1m3 : Method := { name := "sgn", desc := "(I)I", sig := { parameters := [.int], returnType := some .int }, accessFlags := 10, code := some k1c3 }
def k1c4 : Code := { maxStack := 3, maxLocals := 1, code := method_5_code, exceptionTable := #[], attributes := #[] }
def k1m4 : Method := { name := "hi", desc := "(I)C", sig := { parameters := [.int], returnType := some .char }, accessFlags := 10, code := some k1c4 }
def k1c5 : Code := { maxStack := 3, maxLocals := 1, code := method_6_code, exceptionTable := #[], attributes := #[] }
def k1m5 : Method := { name := "lo", desc := "(I)C", sig := { parameters := [.int], returnType := some .char }, accessFlags := 10, code := some k1c5 }
def k1c6 : Code := { maxStack := 6, maxLocals := 1, code := method_7_code, exceptionTable := #[], attributes := #[] }
def k1m6 : Method := { name := "one", desc := "(I)Ljava/lang/String;", sig := { parameters := [.int], returnType := some (.object "java/lang/String") }, accessFlags := 10, code := some k1c6 }
def k1c7 : Code := { maxStack := 6, maxLocals := 5, code := method_8_code, exceptionTable := #[], attributes := #[] }
def k1m7 : Method := { name := "enc", desc := "(III)Ljava/lang/String;", sig := { parameters := [.int, .int, .int], returnType := some (.object "java/lang/String") }, accessFlags := 10, code := some k1c7 }
/-- com/example/tuned_odds/tunedodds/retrieval/CodePointOrderComparePinLaw -/
def k1 : Class := { plain "com/example/tuned_odds/tunedodds/retrieval/CodePointOrderComparePinLaw" (some 0) with
  accessFlags := 49
  interfaces := #[]
  cf := some (fileOf pool1 8 #[] #[{ accessFlags := 2, nameIndex := 5, descriptorIndex := 6, attributes := #[] }, { accessFlags := 9, nameIndex := 53, descriptorIndex := 54, attributes := #[] }, { accessFlags := 10, nameIndex := 11, descriptorIndex := 12, attributes := #[] }, { accessFlags := 10, nameIndex := 19, descriptorIndex := 12, attributes := #[] }, { accessFlags := 10, nameIndex := 39, descriptorIndex := 40, attributes := #[] }, { accessFlags := 10, nameIndex := 43, descriptorIndex := 40, attributes := #[] }, { accessFlags := 10, nameIndex := 49, descriptorIndex := 50, attributes := #[] }, { accessFlags := 10, nameIndex := 15, descriptorIndex := 16, attributes := #[] }] 49 2 #[] #[])
  fields := #[]
  methods := #[k1m0, k1m1, k1m2, k1m3, k1m4, k1m5, k1m6, k1m7]
  instanceTypes := #[]
  staticTypes := #[]
  resolved := Array.replicate 58 none
  statics := none }

def pool2 : Array CpInfo := pool [(1, .class_ 2), (0, u "java/io/Serializable"), (0, .class_ 4), (0, u "java/lang/Object")] 2

/-- java/io/Serializable -/
def k2 : Class := { plain "java/io/Serializable" (some 0) with
  accessFlags := 1537
  interfaces := #[]
  cf := some (fileOf pool2 1 #[] #[] 1537 3 #[] #[])
  fields := #[]
  methods := #[]
  instanceTypes := #[]
  staticTypes := #[]
  resolved := Array.replicate 7 none
  statics := none }

def pool3 : Array CpInfo := pool [(1, .class_ 2), (0, u "java/lang/Comparable"), (0, .class_ 4), (0, u "java/lang/Object")] 7

/-- java/lang/Comparable -/
def k3 : Class := { plain "java/lang/Comparable" (some 0) with
  accessFlags := 1537
  interfaces := #[]
  cf := some (fileOf pool3 1 #[] #[] 1537 3 #[] #[])
  fields := #[]
  methods := #[]
  instanceTypes := #[]
  staticTypes := #[]
  resolved := Array.replicate 12 none
  statics := none }

def pool4 : Array CpInfo := pool [(2, .class_ 4), (1, u "java/lang/CharSequence"), (42, .class_ 48), (0, u "java/lang/CharSequence$1CodePointIterator"), (10, .class_ 60), (0, u "java/lang/CharSequence$1CharIterator"), (5, .class_ 67), (0, u "java/lang/Object")] 63

/-- java/lang/CharSequence -/
def k4 : Class := { plain "java/lang/CharSequence" (some 0) with
  accessFlags := 1537
  interfaces := #[]
  cf := some (fileOf pool4 2 #[.nestMembers #[47, 59]] #[] 1537 66 #[] #[])
  fields := #[]
  methods := #[]
  instanceTypes := #[]
  staticTypes := #[]
  resolved := Array.replicate 131 none
  statics := none }

def pool5 : Array CpInfo := pool [(1, .class_ 2), (0, u "java/lang/constant/Constable"), (0, .class_ 4), (0, u "java/lang/Object")] 6

/-- java/lang/constant/Constable -/
def k5 : Class := { plain "java/lang/constant/Constable" (some 0) with
  accessFlags := 1537
  interfaces := #[]
  cf := some (fileOf pool5 1 #[] #[] 1537 3 #[] #[])
  fields := #[]
  methods := #[]
  instanceTypes := #[]
  staticTypes := #[]
  resolved := Array.replicate 11 none
  statics := none }

def pool6 : Array CpInfo := pool [(1, .class_ 2), (0, u "java/lang/constant/ConstantDesc"), (0, .class_ 4), (0, u "java/lang/Object")] 32

/-- java/lang/constant/ConstantDesc -/
def k6 : Class := { plain "java/lang/constant/ConstantDesc" (some 0) with
  accessFlags := 1537
  interfaces := #[]
  cf := some (fileOf pool6 1 #[] #[] 1537 3 #[] #[])
  fields := #[]
  methods := #[]
  instanceTypes := #[]
  staticTypes := #[]
  resolved := Array.replicate 37 none
  statics := none }

def pool7 : Array CpInfo := pool [(1, .methodref 2 3), (0, .class_ 4), (0, .nameAndType 5 6), (0, u "java/lang/Object"), (0, u "<init>"), (0, u "()V"), (0, .string 8), (0, u ""), (0, .fieldref 10 11), (0, .class_ 12), (0, .nameAndType 13 14), (0, u "java/lang/String"), (0, u "value"), (0, u "[B"), (0, .fieldref 10 16), (0, .nameAndType 17 18), (0, u "coder"), (0, u "B"), (2, u "hash"), (0, u "I"), (2, u "hashIsZero"), (0, u "Z"), (0, .methodref 10 28), (0, .nameAndType 5 29), (0, u "([CIILjava/lang/Void;)V"), (8, .fieldref 10 39), (0, .nameAndType 40 26), (0, u "COMPACT_STRINGS"), (1, .class_ 44), (1, u "java/lang/StringUTF16"), (0, u "compress"), (1, .methodref 42 48), (0, .nameAndType 49 50), (0, u "coderFromArrayLen"), (0, u "([BI)B"), (2, u "toBytes"), (53, .class_ 109), (1, u "java/lang/StringLatin1"), (32, u "()Z"), (34, .methodref 42 178), (0, .nameAndType 45 179), (0, u "([CII)[B"), (29, .methodref 10 210), (0, .nameAndType 5 211), (0, u "([BB)V"), (122, u "()I"), (0, .methodref 10 336), (0, .nameAndType 17 337), (0, u "()B"), (25, u "([BI)C"), (5, u "(C)Z"), (21, u "(II)V"), (35, u "(I)C"), (64, .methodref 10 493), (0, .nameAndType 494 142), (0, u "isLatin1"), (0, .methodref 107 496), (0, .nameAndType 497 363), (0, u "charAt"), (0, .methodref 42 496), (2, u "checkIndex"), (5, u "length"), (67, .class_ 576), (0, u "java/lang/CharSequence"), (22, u "CASE_INSENSITIVE_ORDER"), (0, u "Ljava/util/Comparator;"), (181, u "valueOf"), (0, u "(C)Ljava/lang/String;"), (226, u "([C)V"), (4, .methodref 107 1016), (0, .nameAndType 1017 369), (0, u "canEncode"), (0, .methodref 107 1019), (0, .nameAndType 53 1020), (0, u "(C)[B"), (0, .methodref 42 1019), (31, .fieldref 1054 1055), (0, .class_ 1056), (0, .nameAndType 1057 1058), (0, u "jdk/internal/util/Preconditions"), (0, u "SIOOBE_FORMATTER"), (0, u "Ljava/util/function/BiFunction;"), (0, .methodref 1054 1060), (0, .nameAndType 501 1061), (0, u "(IILjava/util/function/BiFunction;)I"), (39, u "serialPersistentFields"), (0, u "[Ljava/io/ObjectStreamField;"), (0, .class_ 1104), (0, u "java/lang/String$CaseInsensitiveComparator"), (1, .class_ 1107), (0, u "java/io/Serializable"), (0, .class_ 1109), (0, u "java/lang/Comparable"), (0, .class_ 1111), (0, u "java/lang/constant/Constable"), (0, .class_ 1113), (0, u "java/lang/constant/ConstantDesc"), (2, u "serialVersionUID"), (0, u "J"), (3, u "REPL"), (0, u "C"), (2, u "LATIN1"), (1, u "UTF16")] 323

def k7m0 : Method := { name := "<init>", desc := "()V", sig := { parameters := [], returnType := none }, accessFlags := 1, code := none }
def k7c1 : Code := { maxStack := 5, maxLocals := 2, code := jdk_42_method_3_code, exceptionTable := #[], attributes := #[] }
def k7m1 : Method := { name := "<init>", desc := "([C)V", sig := { parameters := [(.array .char)], returnType := none }, accessFlags := 1, code := some k7c1 }
def k7c2 : Code := { maxStack := 2, maxLocals := 1, code := jdk_42_method_54_code, exceptionTable := #[], attributes := #[] }
def k7m2 : Method := { name := "length", desc := "()I", sig := { parameters := [], returnType := some .int }, accessFlags := 1, code := some k7c2 }
def k7c3 : Code := { maxStack := 2, maxLocals := 2, code := jdk_42_method_56_code, exceptionTable := #[], attributes := #[] }
def k7m3 : Method := { name := "charAt", desc := "(I)C", sig := { parameters := [.int], returnType := some .char }, accessFlags := 1, code := some k7c3 }
def k7c4 : Code := { maxStack := 4, maxLocals := 1, code := jdk_42_method_139_code, exceptionTable := #[], attributes := #[] }
def k7m4 : Method := { name := "valueOf", desc := "(C)Ljava/lang/String;", sig := { parameters := [.char], returnType := some (.object "java/lang/String") }, accessFlags := 9, code := some k7c4 }
def k7c5 : Code := { maxStack := 4, maxLocals := 6, code := jdk_42_method_149_code, exceptionTable := #[], attributes := #[] }
def k7m5 : Method := { name := "<init>", desc := "([CIILjava/lang/Void;)V", sig := { parameters := [(.array .char), .int, .int, (.object "java/lang/Void")], returnType := none }, accessFlags := 2, code := some k7c5 }
def k7c6 : Code := { maxStack := 2, maxLocals := 3, code := jdk_42_method_151_code, exceptionTable := #[], attributes := #[] }
def k7m6 : Method := { name := "<init>", desc := "([BB)V", sig := { parameters := [(.array .byte), .byte], returnType := none }, accessFlags := 0, code := some k7c6 }
def k7c7 : Code := { maxStack := 1, maxLocals := 1, code := jdk_42_method_152_code, exceptionTable := #[], attributes := #[] }
def k7m7 : Method := { name := "coder", desc := "()B", sig := { parameters := [], returnType := some .byte }, accessFlags := 0, code := some k7c7 }
def k7c8 : Code := { maxStack := 1, maxLocals := 1, code := jdk_42_method_154_code, exceptionTable := #[], attributes := #[] }
def k7m8 : Method := { name := "isLatin1", desc := "()Z", sig := { parameters := [], returnType := some .boolean }, accessFlags := 0, code := some k7c8 }
def k7c9 : Code := { maxStack := 3, maxLocals := 2, code := jdk_42_method_155_code, exceptionTable := #[], attributes := #[] }
def k7m9 : Method := { name := "checkIndex", desc := "(II)V", sig := { parameters := [.int, .int], returnType := none }, accessFlags := 8, code := some k7c9 }
/-- java/lang/String -/
def k7 : Class := { plain "java/lang/String" (some 0) with
  accessFlags := 49
  interfaces := #[2, 3, 4, 5, 6]
  cf := some (fileOf pool7 10 #[.nestMembers #[1103]] #[{ accessFlags := 1, nameIndex := 5, descriptorIndex := 6, attributes := #[] }, { accessFlags := 1, nameIndex := 5, descriptorIndex := 1010, attributes := #[] }, { accessFlags := 1, nameIndex := 507, descriptorIndex := 334, attributes := #[] }, { accessFlags := 1, nameIndex := 497, descriptorIndex := 427, attributes := #[] }, { accessFlags := 9, nameIndex := 782, descriptorIndex := 783, attributes := #[] }, { accessFlags := 2, nameIndex := 5, descriptorIndex := 29, attributes := #[] }, { accessFlags := 0, nameIndex := 5, descriptorIndex := 211, attributes := #[] }, { accessFlags := 0, nameIndex := 17, descriptorIndex := 337, attributes := #[] }, { accessFlags := 0, nameIndex := 494, descriptorIndex := 142, attributes := #[] }, { accessFlags := 8, nameIndex := 501, descriptorIndex := 391, attributes := #[] }] 49 2 #[1106, 1108, 575, 1110, 1112] #[{ accessFlags := 18, nameIndex := 13, descriptorIndex := 14, attributes := #[] }, { accessFlags := 18, nameIndex := 17, descriptorIndex := 18, attributes := #[] }, { accessFlags := 2, nameIndex := 21, descriptorIndex := 22, attributes := #[] }, { accessFlags := 2, nameIndex := 25, descriptorIndex := 26, attributes := #[] }, { accessFlags := 26, nameIndex := 1116, descriptorIndex := 1117, attributes := #[] }, { accessFlags := 24, nameIndex := 40, descriptorIndex := 26, attributes := #[] }, { accessFlags := 26, nameIndex := 1101, descriptorIndex := 1102, attributes := #[] }, { accessFlags := 26, nameIndex := 1121, descriptorIndex := 1122, attributes := #[] }, { accessFlags := 25, nameIndex := 599, descriptorIndex := 600, attributes := #[] }, { accessFlags := 24, nameIndex := 1125, descriptorIndex := 18, attributes := #[] }, { accessFlags := 24, nameIndex := 1127, descriptorIndex := 18, attributes := #[] }])
  fields := #[{ name := "value", type := (.array .byte), accessFlags := 18, slot := 0, constantValue := 0 }, { name := "coder", type := .byte, accessFlags := 18, slot := 1, constantValue := 0 }, { name := "hash", type := .int, accessFlags := 2, slot := 2, constantValue := 0 }, { name := "hashIsZero", type := .boolean, accessFlags := 2, slot := 3, constantValue := 0 }, { name := "serialVersionUID", type := .long, accessFlags := 26, slot := 0, constantValue := 0 }, { name := "COMPACT_STRINGS", type := .boolean, accessFlags := 24, slot := 1, constantValue := 0 }, { name := "serialPersistentFields", type := (.array (.object "java/io/ObjectStreamField")), accessFlags := 26, slot := 2, constantValue := 0 }, { name := "REPL", type := .char, accessFlags := 26, slot := 3, constantValue := 0 }, { name := "CASE_INSENSITIVE_ORDER", type := (.object "java/util/Comparator"), accessFlags := 25, slot := 4, constantValue := 0 }, { name := "LATIN1", type := .byte, accessFlags := 24, slot := 5, constantValue := 0 }, { name := "UTF16", type := .byte, accessFlags := 24, slot := 6, constantValue := 0 }]
  methods := #[k7m0, k7m1, k7m2, k7m3, k7m4, k7m5, k7m6, k7m7, k7m8, k7m9]
  instanceTypes := #[(.array .byte), .byte, .int, .boolean]
  staticTypes := #[.long, .boolean, (.array (.object "java/io/ObjectStreamField")), .char, (.object "java/util/Comparator"), .byte, .byte]
  resolved := Array.replicate 1451 none
  statics := some 0 }

def pool8 : Array CpInfo := pool [(2, .class_ 4), (1, u "java/lang/Object"), (0, u "<init>"), (0, u "()V"), (0, .methodref 8 9), (0, .class_ 10), (0, .nameAndType 11 12), (0, u "java/lang/String"), (0, u "length"), (0, u "()I"), (0, .methodref 14 15), (0, .class_ 16), (0, .nameAndType 17 18), (0, u "java/lang/Math"), (0, u "min"), (0, u "(II)I"), (0, .methodref 8 20), (0, .nameAndType 21 22), (0, u "charAt"), (0, u "(I)C"), (0, .methodref 24 25), (0, .class_ 26), (0, .nameAndType 27 28), (0, u "com/example/tuned_odds/tunedodds/retrieval/CodePointOrder"), (0, u "rank"), (0, u "(C)I"), (0, .methodref 30 31), (0, .class_ 32), (0, .nameAndType 33 18), (0, u "java/lang/Integer"), (0, u "compare"), (0, .integer 57344), (0, .methodref 36 37), (0, .class_ 38), (0, .nameAndType 39 40), (0, u "java/lang/Character"), (0, u "isSurrogate"), (0, u "(C)Z"), (2, u "(Ljava/lang/String;Ljava/lang/String;)I")] 3

def k8m0 : Method := { name := "<init>", desc := "()V", sig := { parameters := [], returnType := none }, accessFlags := 2, code := none }
def k8c1 : Code := { maxStack := 2, maxLocals := 6, code := prog_42_method_2_code, exceptionTable := #[], attributes := #[] }
def k8m1 : Method := { name := "compare", desc := "(Ljava/lang/String;Ljava/lang/String;)I", sig := { parameters := [(.object "java/lang/String"), (.object "java/lang/String")], returnType := some .int }, accessFlags := 9, code := some k8c1 }
def k8c2 : Code := { maxStack := 2, maxLocals := 2, code := prog_42_method_3_code, exceptionTable := #[], attributes := #[] }
def k8m2 : Method := { name := "rank", desc := "(C)I", sig := { parameters := [.char], returnType := some .int }, accessFlags := 10, code := some k8c2 }
/-- com/example/tuned_odds/tunedodds/retrieval/CodePointOrder -/
def k8 : Class := { plain "com/example/tuned_odds/tunedodds/retrieval/CodePointOrder" (some 0) with
  accessFlags := 33
  interfaces := #[]
  cf := some (fileOf pool8 24 #[] #[{ accessFlags := 2, nameIndex := 5, descriptorIndex := 6, attributes := #[] }, { accessFlags := 9, nameIndex := 33, descriptorIndex := 43, attributes := #[] }, { accessFlags := 10, nameIndex := 27, descriptorIndex := 28, attributes := #[] }] 33 2 #[] #[])
  fields := #[]
  methods := #[k8m0, k8m1, k8m2]
  instanceTypes := #[]
  staticTypes := #[]
  resolved := Array.replicate 47 none
  statics := none }

def pool9 : Array CpInfo := pool [(1, .class_ 2), (0, u "java/lang/Math"), (1, .class_ 6), (1, u "java/lang/Object"), (0, u "<init>"), (0, u "()V"), (89, .class_ 100), (1, u "java/lang/Math$RandomNumberGeneratorHolder"), (71, u "negativeZeroFloatBits"), (0, u "J"), (2, u "negativeZeroDoubleBits"), (24, u "min"), (43, u "$assertionsDisabled"), (0, u "Z"), (88, u "(II)I"), (2, u "twoToTheDoubleScaleDown"), (0, u "D"), (4, u "twoToTheDoubleScaleUp"), (9, u "E"), (3, u "PI"), (2, u "TAU"), (2, u "DEGREES_TO_RADIANS"), (0, u "RADIANS_TO_DEGREES")] 94

def k9m0 : Method := { name := "<init>", desc := "()V", sig := { parameters := [], returnType := none }, accessFlags := 2, code := none }
def k9c1 : Code := { maxStack := 2, maxLocals := 2, code := jdk_29_method_69_code, exceptionTable := #[], attributes := #[] }
def k9m1 : Method := { name := "min", desc := "(II)I", sig := { parameters := [.int, .int], returnType := some .int }, accessFlags := 9, code := some k9c1 }
/-- java/lang/Math -/
def k9 : Class := { plain "java/lang/Math" (some 0) with
  accessFlags := 49
  interfaces := #[]
  cf := some (fileOf pool9 1 #[.nestMembers #[98]] #[{ accessFlags := 2, nameIndex := 7, descriptorIndex := 8, attributes := #[] }, { accessFlags := 9, nameIndex := 201, descriptorIndex := 335, attributes := #[] }] 49 4 #[] #[{ accessFlags := 25, nameIndex := 354, descriptorIndex := 339, attributes := #[] }, { accessFlags := 25, nameIndex := 358, descriptorIndex := 339, attributes := #[] }, { accessFlags := 25, nameIndex := 361, descriptorIndex := 339, attributes := #[] }, { accessFlags := 26, nameIndex := 364, descriptorIndex := 339, attributes := #[] }, { accessFlags := 26, nameIndex := 365, descriptorIndex := 339, attributes := #[] }, { accessFlags := 26, nameIndex := 172, descriptorIndex := 173, attributes := #[] }, { accessFlags := 26, nameIndex := 176, descriptorIndex := 173, attributes := #[] }, { accessFlags := 8, nameIndex := 344, descriptorIndex := 339, attributes := #[] }, { accessFlags := 8, nameIndex := 338, descriptorIndex := 339, attributes := #[] }, { accessFlags := 4120, nameIndex := 245, descriptorIndex := 246, attributes := #[] }])
  fields := #[{ name := "E", type := .double, accessFlags := 25, slot := 0, constantValue := 0 }, { name := "PI", type := .double, accessFlags := 25, slot := 1, constantValue := 0 }, { name := "TAU", type := .double, accessFlags := 25, slot := 2, constantValue := 0 }, { name := "DEGREES_TO_RADIANS", type := .double, accessFlags := 26, slot := 3, constantValue := 0 }, { name := "RADIANS_TO_DEGREES", type := .double, accessFlags := 26, slot := 4, constantValue := 0 }, { name := "negativeZeroFloatBits", type := .long, accessFlags := 26, slot := 5, constantValue := 0 }, { name := "negativeZeroDoubleBits", type := .long, accessFlags := 26, slot := 6, constantValue := 0 }, { name := "twoToTheDoubleScaleUp", type := .double, accessFlags := 8, slot := 7, constantValue := 0 }, { name := "twoToTheDoubleScaleDown", type := .double, accessFlags := 8, slot := 8, constantValue := 0 }, { name := "$assertionsDisabled", type := .boolean, accessFlags := 4120, slot := 9, constantValue := 0 }]
  methods := #[k9m0, k9m1]
  instanceTypes := #[]
  staticTypes := #[.double, .double, .double, .double, .double, .long, .long, .double, .double, .boolean]
  resolved := Array.replicate 460 none
  statics := none }

def pool10 : Array CpInfo := pool [(2, .class_ 4), (1, u "java/lang/Object"), (0, u "<init>"), (0, u "()V"), (1, .class_ 10), (1, u "java/lang/Number"), (2, .class_ 14), (0, u "java/io/Serializable"), (0, u "serialVersionUID"), (0, u "J")] 20

def k10m0 : Method := { name := "<init>", desc := "()V", sig := { parameters := [], returnType := none }, accessFlags := 1, code := none }
/-- java/lang/Number -/
def k10 : Class := { plain "java/lang/Number" (some 0) with
  accessFlags := 1057
  interfaces := #[2]
  cf := some (fileOf pool10 8 #[] #[{ accessFlags := 1, nameIndex := 5, descriptorIndex := 6, attributes := #[] }] 1057 2 #[13] #[{ accessFlags := 26, nameIndex := 15, descriptorIndex := 16, attributes := #[] }])
  fields := #[{ name := "serialVersionUID", type := .long, accessFlags := 26, slot := 0, constantValue := 0 }]
  methods := #[k10m0]
  instanceTypes := #[]
  staticTypes := #[.long]
  resolved := Array.replicate 37 none
  statics := none }

def pool11 : Array CpInfo := pool [(1, .class_ 2), (0, u "java/lang/Integer"), (16, u "digits"), (0, u "[C"), (39, u "(II)I"), (24, u "DigitOnes"), (0, u "[B"), (2, u "DigitTens"), (99, .class_ 190), (0, u "java/lang/Integer$IntegerCache"), (3, u "I"), (8, .class_ 204), (0, u "java/lang/Number"), (2, u "value"), (53, u "compare"), (40, u "TYPE"), (0, u "Ljava/lang/Class;"), (0, .class_ 305), (0, u "java/lang/Comparable"), (0, .class_ 307), (0, u "java/lang/constant/Constable"), (0, .class_ 309), (0, u "java/lang/constant/ConstantDesc"), (0, u "MIN_VALUE"), (1, u "MAX_VALUE"), (3, u "SIZE"), (1, u "BYTES"), (1, u "serialVersionUID"), (0, u "J")] 131

def k11c0 : Code := { maxStack := 2, maxLocals := 2, code := jdk_33_method_40_code, exceptionTable := #[], attributes := #[] }
def k11m0 : Method := { name := "compare", desc := "(II)I", sig := { parameters := [.int, .int], returnType := some .int }, accessFlags := 9, code := some k11c0 }
/-- java/lang/Integer -/
def k11 : Class := { plain "java/lang/Integer" (some 10) with
  accessFlags := 49
  interfaces := #[3, 5, 6]
  cf := some (fileOf pool11 1 #[.nestMembers #[189]] #[{ accessFlags := 9, nameIndex := 261, descriptorIndex := 60, attributes := #[] }] 49 203 #[304, 306, 308] #[{ accessFlags := 25, nameIndex := 310, descriptorIndex := 194, attributes := #[] }, { accessFlags := 25, nameIndex := 312, descriptorIndex := 194, attributes := #[] }, { accessFlags := 25, nameIndex := 302, descriptorIndex := 303, attributes := #[] }, { accessFlags := 24, nameIndex := 19, descriptorIndex := 20, attributes := #[] }, { accessFlags := 24, nameIndex := 89, descriptorIndex := 86, attributes := #[] }, { accessFlags := 24, nameIndex := 85, descriptorIndex := 86, attributes := #[] }, { accessFlags := 18, nameIndex := 207, descriptorIndex := 194, attributes := #[] }, { accessFlags := 25, nameIndex := 316, descriptorIndex := 194, attributes := #[] }, { accessFlags := 25, nameIndex := 318, descriptorIndex := 194, attributes := #[] }, { accessFlags := 26, nameIndex := 320, descriptorIndex := 321, attributes := #[] }])
  fields := #[{ name := "MIN_VALUE", type := .int, accessFlags := 25, slot := 0, constantValue := 0 }, { name := "MAX_VALUE", type := .int, accessFlags := 25, slot := 1, constantValue := 0 }, { name := "TYPE", type := (.object "java/lang/Class"), accessFlags := 25, slot := 2, constantValue := 0 }, { name := "digits", type := (.array .char), accessFlags := 24, slot := 3, constantValue := 0 }, { name := "DigitTens", type := (.array .byte), accessFlags := 24, slot := 4, constantValue := 0 }, { name := "DigitOnes", type := (.array .byte), accessFlags := 24, slot := 5, constantValue := 0 }, { name := "value", type := .int, accessFlags := 18, slot := 0, constantValue := 0 }, { name := "SIZE", type := .int, accessFlags := 25, slot := 6, constantValue := 0 }, { name := "BYTES", type := .int, accessFlags := 25, slot := 7, constantValue := 0 }, { name := "serialVersionUID", type := .long, accessFlags := 26, slot := 8, constantValue := 0 }]
  methods := #[k11m0]
  instanceTypes := #[.int]
  staticTypes := #[.int, .int, (.object "java/lang/Class"), (.array .char), (.array .byte), (.array .byte), .int, .int, .long]
  resolved := Array.replicate 453 none
  statics := none }

def pool12 : Array CpInfo := pool [(1, .class_ 2), (0, u "java/lang/String"), (1, .class_ 6), (1, u "java/lang/Object"), (0, u "<init>"), (0, u "()V"), (0, .methodref 1 10), (0, .nameAndType 11 12), (0, u "checkIndex"), (0, u "(II)V"), (1, .class_ 16), (1, u "java/lang/StringLatin1"), (36, u "([BI)C"), (36, u "canEncode"), (14, u "(C)Z"), (15, u "$assertionsDisabled"), (0, u "Z"), (98, .class_ 223), (1, u "java/lang/StringLatin1$LinesSpliterator"), (28, u "charAt"), (127, u "toBytes"), (1, u "(C)[B"), (7, .class_ 391), (0, u "java/lang/StringLatin1$CharsSpliterator")] 3

def k12m0 : Method := { name := "<init>", desc := "()V", sig := { parameters := [], returnType := none }, accessFlags := 0, code := none }
def k12c1 : Code := { maxStack := 2, maxLocals := 2, code := jdk_43_method_2_code, exceptionTable := #[], attributes := #[] }
def k12m1 : Method := { name := "charAt", desc := "([BI)C", sig := { parameters := [(.array .byte), .int], returnType := some .char }, accessFlags := 9, code := some k12c1 }
def k12c2 : Code := { maxStack := 2, maxLocals := 1, code := jdk_43_method_3_code, exceptionTable := #[], attributes := #[] }
def k12m2 : Method := { name := "canEncode", desc := "(C)Z", sig := { parameters := [.char], returnType := some .boolean }, accessFlags := 9, code := some k12c2 }
def k12c3 : Code := { maxStack := 4, maxLocals := 1, code := jdk_43_method_46_code, exceptionTable := #[], attributes := #[] }
def k12m3 : Method := { name := "toBytes", desc := "(C)[B", sig := { parameters := [.char], returnType := some (.array .byte) }, accessFlags := 9, code := some k12c3 }
/-- java/lang/StringLatin1 -/
def k12 : Class := { plain "java/lang/StringLatin1" (some 0) with
  accessFlags := 48
  interfaces := #[]
  cf := some (fileOf pool12 14 #[.nestMembers #[390, 221]] #[{ accessFlags := 0, nameIndex := 7, descriptorIndex := 8, attributes := #[] }, { accessFlags := 9, nameIndex := 252, descriptorIndex := 53, attributes := #[] }, { accessFlags := 9, nameIndex := 90, descriptorIndex := 105, attributes := #[] }, { accessFlags := 9, nameIndex := 380, descriptorIndex := 382, attributes := #[] }] 48 4 #[] #[{ accessFlags := 4120, nameIndex := 121, descriptorIndex := 122, attributes := #[] }])
  fields := #[{ name := "$assertionsDisabled", type := .boolean, accessFlags := 4120, slot := 0, constantValue := 0 }]
  methods := #[k12m0, k12m1, k12m2, k12m3]
  instanceTypes := #[]
  staticTypes := #[.boolean]
  resolved := Array.replicate 395 none
  statics := none }

def pool13 : Array CpInfo := pool [(3, .class_ 4), (0, u "java/lang/String"), (1, .class_ 8), (1, u "java/lang/Object"), (0, u "<init>"), (0, u "()V"), (0, .methodref 12 13), (0, .class_ 14), (0, .nameAndType 15 16), (0, u "java/lang/StringUTF16"), (0, u "newBytesLength"), (0, u "(I)I"), (3, .integer 1073741823), (23, .fieldref 12 45), (0, .nameAndType 46 47), (0, u "$assertionsDisabled"), (0, u "Z"), (0, .methodref 12 49), (0, .nameAndType 50 51), (0, u "length"), (0, u "([B)I"), (7, .fieldref 12 60), (0, .nameAndType 61 62), (0, u "HI_BYTE_SHIFT"), (0, u "I"), (0, .fieldref 12 64), (0, .nameAndType 65 62), (0, u "LO_BYTE_SHIFT"), (1, .methodref 12 68), (0, .nameAndType 69 70), (0, u "checkIndex"), (0, u "(I[B)V"), (0, .methodref 12 72), (0, .nameAndType 73 74), (0, u "getChar"), (0, u "([BI)C"), (32, .methodref 12 108), (0, .nameAndType 109 110), (0, u "newBytesFor"), (0, u "(I)[B"), (0, .methodref 12 112), (0, .nameAndType 113 114), (0, u "putChar"), (0, u "([BII)V"), (0, .methodref 12 116), (0, .nameAndType 117 118), (0, u "compress"), (0, u "([CI[BII)I"), (0, .methodref 12 120), (0, .nameAndType 121 122), (0, u "toBytes"), (0, u "([CII)[B"), (138, u "coderFromArrayLen"), (0, u "([BI)B"), (106, .class_ 371), (1, u "java/lang/StringUTF16$LinesSpliterator"), (20, u "charAt"), (21, .methodref 3 415), (0, .nameAndType 69 416), (0, u "(II)V"), (13, u "MAX_LENGTH"), (44, u "(C)[B"), (151, .class_ 628), (0, u "java/lang/StringUTF16$CodePointsSpliterator"), (0, .class_ 630), (0, u "java/lang/StringUTF16$CharsSpliterator")] 4

def k13m0 : Method := { name := "<init>", desc := "()V", sig := { parameters := [], returnType := none }, accessFlags := 0, code := none }
def k13c1 : Code := { maxStack := 1, maxLocals := 1, code := jdk_52_method_2_code, exceptionTable := #[], attributes := #[] }
def k13m1 : Method := { name := "newBytesFor", desc := "(I)[B", sig := { parameters := [.int], returnType := some (.array .byte) }, accessFlags := 9, code := some k13c1 }
def k13c2 : Code := { maxStack := 4, maxLocals := 1, code := jdk_52_method_3_code, exceptionTable := #[], attributes := #[] }
def k13m2 : Method := { name := "newBytesLength", desc := "(I)I", sig := { parameters := [.int], returnType := some .int }, accessFlags := 9, code := some k13c2 }
def k13c3 : Code := { maxStack := 4, maxLocals := 3, code := jdk_52_method_4_code, exceptionTable := #[], attributes := #[] }
def k13m3 : Method := { name := "putChar", desc := "([BII)V", sig := { parameters := [(.array .byte), .int, .int], returnType := none }, accessFlags := 8, code := some k13c3 }
def k13c4 : Code := { maxStack := 3, maxLocals := 2, code := jdk_52_method_5_code, exceptionTable := #[], attributes := #[] }
def k13m4 : Method := { name := "getChar", desc := "([BI)C", sig := { parameters := [(.array .byte), .int], returnType := some .char }, accessFlags := 8, code := some k13c4 }
def k13c5 : Code := { maxStack := 2, maxLocals := 1, code := jdk_52_method_6_code, exceptionTable := #[], attributes := #[] }
def k13m5 : Method := { name := "length", desc := "([B)I", sig := { parameters := [(.array .byte)], returnType := some .int }, accessFlags := 9, code := some k13c5 }
def k13c6 : Code := { maxStack := 4, maxLocals := 5, code := jdk_52_method_14_code, exceptionTable := #[], attributes := #[] }
def k13m6 : Method := { name := "toBytes", desc := "([CII)[B", sig := { parameters := [(.array .char), .int, .int], returnType := some (.array .byte) }, accessFlags := 9, code := some k13c6 }
def k13c7 : Code := { maxStack := 2, maxLocals := 2, code := jdk_52_method_15_code, exceptionTable := #[], attributes := #[] }
def k13m7 : Method := { name := "coderFromArrayLen", desc := "([BI)B", sig := { parameters := [(.array .byte), .int], returnType := some .byte }, accessFlags := 8, code := some k13c7 }
def k13c8 : Code := { maxStack := 5, maxLocals := 6, code := jdk_52_method_16_code, exceptionTable := #[], attributes := #[] }
def k13m8 : Method := { name := "compress", desc := "([CII)[B", sig := { parameters := [(.array .char), .int, .int], returnType := some (.array .byte) }, accessFlags := 9, code := some k13c8 }
def k13c9 : Code := { maxStack := 3, maxLocals := 7, code := jdk_52_method_21_code, exceptionTable := #[], attributes := #[] }
def k13m9 : Method := { name := "compress", desc := "([CI[BII)I", sig := { parameters := [(.array .char), .int, (.array .byte), .int, .int], returnType := some .int }, accessFlags := 9, code := some k13c9 }
def k13c10 : Code := { maxStack := 3, maxLocals := 2, code := jdk_52_method_24_code, exceptionTable := #[], attributes := #[] }
def k13m10 : Method := { name := "toBytes", desc := "(C)[B", sig := { parameters := [.char], returnType := some (.array .byte) }, accessFlags := 9, code := some k13c10 }
def k13c11 : Code := { maxStack := 2, maxLocals := 2, code := jdk_52_method_83_code, exceptionTable := #[], attributes := #[] }
def k13m11 : Method := { name := "charAt", desc := "([BI)C", sig := { parameters := [(.array .byte), .int], returnType := some .char }, accessFlags := 9, code := some k13c11 }
def k13c12 : Code := { maxStack := 2, maxLocals := 2, code := jdk_52_method_91_code, exceptionTable := #[], attributes := #[] }
def k13m12 : Method := { name := "checkIndex", desc := "(I[B)V", sig := { parameters := [.int, (.array .byte)], returnType := none }, accessFlags := 9, code := some k13c12 }
/-- java/lang/StringUTF16 -/
def k13 : Class := { plain "java/lang/StringUTF16" (some 0) with
  accessFlags := 48
  interfaces := #[]
  cf := some (fileOf pool13 12 #[.nestMembers #[627, 629, 369]] #[{ accessFlags := 0, nameIndex := 9, descriptorIndex := 10, attributes := #[] }, { accessFlags := 9, nameIndex := 109, descriptorIndex := 110, attributes := #[] }, { accessFlags := 9, nameIndex := 15, descriptorIndex := 16, attributes := #[] }, { accessFlags := 8, nameIndex := 113, descriptorIndex := 114, attributes := #[] }, { accessFlags := 8, nameIndex := 73, descriptorIndex := 74, attributes := #[] }, { accessFlags := 9, nameIndex := 50, descriptorIndex := 51, attributes := #[] }, { accessFlags := 9, nameIndex := 121, descriptorIndex := 122, attributes := #[] }, { accessFlags := 8, nameIndex := 261, descriptorIndex := 262, attributes := #[] }, { accessFlags := 9, nameIndex := 117, descriptorIndex := 122, attributes := #[] }, { accessFlags := 9, nameIndex := 117, descriptorIndex := 118, attributes := #[] }, { accessFlags := 9, nameIndex := 121, descriptorIndex := 475, attributes := #[] }, { accessFlags := 9, nameIndex := 392, descriptorIndex := 74, attributes := #[] }, { accessFlags := 9, nameIndex := 69, descriptorIndex := 70, attributes := #[] }] 48 6 #[] #[{ accessFlags := 26, nameIndex := 61, descriptorIndex := 62, attributes := #[] }, { accessFlags := 26, nameIndex := 65, descriptorIndex := 62, attributes := #[] }, { accessFlags := 24, nameIndex := 430, descriptorIndex := 62, attributes := #[] }, { accessFlags := 4120, nameIndex := 46, descriptorIndex := 47, attributes := #[] }])
  fields := #[{ name := "HI_BYTE_SHIFT", type := .int, accessFlags := 26, slot := 0, constantValue := 0 }, { name := "LO_BYTE_SHIFT", type := .int, accessFlags := 26, slot := 1, constantValue := 0 }, { name := "MAX_LENGTH", type := .int, accessFlags := 24, slot := 2, constantValue := 0 }, { name := "$assertionsDisabled", type := .boolean, accessFlags := 4120, slot := 3, constantValue := 0 }]
  methods := #[k13m0, k13m1, k13m2, k13m3, k13m4, k13m5, k13m6, k13m7, k13m8, k13m9, k13m10, k13m11, k13m12]
  instanceTypes := #[]
  staticTypes := #[.int, .int, .int, .boolean]
  resolved := Array.replicate 635 none
  statics := some 1 }

def pool14 : Array CpInfo := pool [(2, .class_ 4), (1, u "java/lang/Object"), (0, u "<init>"), (0, u "()V"), (17, .class_ 26), (1, u "jdk/internal/util/Preconditions"), (6, u "checkIndex"), (21, .class_ 56), (0, u "jdk/internal/util/Preconditions$4"), (57, .class_ 115), (0, u "jdk/internal/util/Preconditions$1"), (7, u "SIOOBE_FORMATTER"), (0, u "Ljava/util/function/BiFunction;"), (0, .class_ 126), (0, u "jdk/internal/util/Preconditions$2"), (3, u "AIOOBE_FORMATTER"), (0, .class_ 132), (0, u "jdk/internal/util/Preconditions$3"), (3, u "IOOBE_FORMATTER"), (41, u "(IILjava/util/function/BiFunction;)I")] 15

def k14m0 : Method := { name := "<init>", desc := "()V", sig := { parameters := [], returnType := none }, accessFlags := 1, code := none }
def k14c1 : Code := { maxStack := 3, maxLocals := 3, code := jdk_41_method_11_code, exceptionTable := #[], attributes := #[] }
def k14m1 : Method := { name := "checkIndex", desc := "(IILjava/util/function/BiFunction;)I", sig := { parameters := [.int, .int, (.object "java/util/function/BiFunction")], returnType := some .int }, accessFlags := 9, code := some k14c1 }
/-- jdk/internal/util/Preconditions -/
def k14 : Class := { plain "jdk/internal/util/Preconditions" (some 0) with
  accessFlags := 33
  interfaces := #[]
  cf := some (fileOf pool14 24 #[.nestMembers #[55, 131, 125, 114]] #[{ accessFlags := 1, nameIndex := 5, descriptorIndex := 6, attributes := #[] }, { accessFlags := 9, nameIndex := 33, descriptorIndex := 178, attributes := #[] }] 33 2 #[] #[{ accessFlags := 25, nameIndex := 123, descriptorIndex := 124, attributes := #[] }, { accessFlags := 25, nameIndex := 130, descriptorIndex := 124, attributes := #[] }, { accessFlags := 25, nameIndex := 136, descriptorIndex := 124, attributes := #[] }])
  fields := #[{ name := "SIOOBE_FORMATTER", type := (.object "java/util/function/BiFunction"), accessFlags := 25, slot := 0, constantValue := 0 }, { name := "AIOOBE_FORMATTER", type := (.object "java/util/function/BiFunction"), accessFlags := 25, slot := 1, constantValue := 0 }, { name := "IOOBE_FORMATTER", type := (.object "java/util/function/BiFunction"), accessFlags := 25, slot := 2, constantValue := 0 }]
  methods := #[k14m0, k14m1]
  instanceTypes := #[]
  staticTypes := #[(.object "java/util/function/BiFunction"), (.object "java/util/function/BiFunction"), (.object "java/util/function/BiFunction")]
  resolved := Array.replicate 194 none
  statics := some 2 }

def pool15 : Array CpInfo := pool [(1, .class_ 2), (0, u "java/lang/Character"), (18, u "value"), (0, u "C"), (19, .class_ 44), (1, u "java/lang/Object"), (3, .class_ 50), (1, u "java/lang/Character$CharacterCache"), (24, .integer 55296), (1, .integer 57344), (3, u "(C)Z"), (202, u "$assertionsDisabled"), (0, u "Z"), (21, .class_ 309), (1, u "java/lang/Character$UnicodeBlock"), (73, u "TYPE"), (0, u "Ljava/lang/Class;"), (0, .class_ 386), (0, u "java/io/Serializable"), (0, .class_ 388), (0, u "java/lang/Comparable"), (0, .class_ 390), (0, u "java/lang/constant/Constable"), (0, u "MIN_RADIX"), (0, u "I"), (2, u "MAX_RADIX"), (1, u "MIN_VALUE"), (1, u "MAX_VALUE"), (3, u "UNASSIGNED"), (0, u "B"), (0, u "UPPERCASE_LETTER"), (1, u "LOWERCASE_LETTER"), (0, u "TITLECASE_LETTER"), (1, u "MODIFIER_LETTER"), (1, u "OTHER_LETTER"), (1, u "NON_SPACING_MARK"), (1, u "ENCLOSING_MARK"), (1, u "COMBINING_SPACING_MARK"), (1, u "DECIMAL_DIGIT_NUMBER"), (1, u "LETTER_NUMBER"), (1, u "OTHER_NUMBER"), (1, u "SPACE_SEPARATOR"), (1, u "LINE_SEPARATOR"), (1, u "PARAGRAPH_SEPARATOR"), (1, u "CONTROL"), (1, u "FORMAT"), (1, u "PRIVATE_USE"), (1, u "SURROGATE"), (1, u "DASH_PUNCTUATION"), (1, u "START_PUNCTUATION"), (1, u "END_PUNCTUATION"), (1, u "CONNECTOR_PUNCTUATION"), (1, u "OTHER_PUNCTUATION"), (1, u "MATH_SYMBOL"), (1, u "CURRENCY_SYMBOL"), (1, u "MODIFIER_SYMBOL"), (1, u "OTHER_SYMBOL"), (1, u "INITIAL_QUOTE_PUNCTUATION"), (1, u "FINAL_QUOTE_PUNCTUATION"), (1, u "ERROR"), (1, u "DIRECTIONALITY_UNDEFINED"), (0, u "DIRECTIONALITY_LEFT_TO_RIGHT"), (0, u "DIRECTIONALITY_RIGHT_TO_LEFT"), (0, u "DIRECTIONALITY_RIGHT_TO_LEFT_ARABIC"), (0, u "DIRECTIONALITY_EUROPEAN_NUMBER"), (0, u "DIRECTIONALITY_EUROPEAN_NUMBER_SEPARATOR"), (0, u "DIRECTIONALITY_EUROPEAN_NUMBER_TERMINATOR"), (0, u "DIRECTIONALITY_ARABIC_NUMBER"), (0, u "DIRECTIONALITY_COMMON_NUMBER_SEPARATOR"), (0, u "DIRECTIONALITY_NONSPACING_MARK"), (0, u "DIRECTIONALITY_BOUNDARY_NEUTRAL"), (0, u "DIRECTIONALITY_PARAGRAPH_SEPARATOR"), (0, u "DIRECTIONALITY_SEGMENT_SEPARATOR"), (0, u "DIRECTIONALITY_WHITESPACE"), (0, u "DIRECTIONALITY_OTHER_NEUTRALS"), (0, u "DIRECTIONALITY_LEFT_TO_RIGHT_EMBEDDING"), (0, u "DIRECTIONALITY_LEFT_TO_RIGHT_OVERRIDE"), (0, u "DIRECTIONALITY_RIGHT_TO_LEFT_EMBEDDING"), (0, u "DIRECTIONALITY_RIGHT_TO_LEFT_OVERRIDE"), (1, u "DIRECTIONALITY_POP_DIRECTIONAL_FORMAT"), (0, u "DIRECTIONALITY_LEFT_TO_RIGHT_ISOLATE"), (0, u "DIRECTIONALITY_RIGHT_TO_LEFT_ISOLATE"), (0, u "DIRECTIONALITY_FIRST_STRONG_ISOLATE"), (0, u "DIRECTIONALITY_POP_DIRECTIONAL_ISOLATE"), (0, u "MIN_HIGH_SURROGATE"), (0, u "MAX_HIGH_SURROGATE"), (1, u "MIN_LOW_SURROGATE"), (0, u "MAX_LOW_SURROGATE"), (1, u "MIN_SURROGATE"), (0, u "MAX_SURROGATE"), (0, u "MIN_SUPPLEMENTARY_CODE_POINT"), (0, u "MIN_CODE_POINT"), (0, u "MAX_CODE_POINT"), (1, u "serialVersionUID"), (0, u "J"), (2, u "SIZE"), (0, u "BYTES"), (24, u "isSurrogate"), (63, .class_ 596), (0, u "java/lang/Character$UnicodeScript"), (0, .class_ 598), (0, u "java/lang/Character$Subset")] 5

def k15c0 : Code := { maxStack := 2, maxLocals := 1, code := jdk_89_method_16_code, exceptionTable := #[], attributes := #[] }
def k15m0 : Method := { name := "isSurrogate", desc := "(C)Z", sig := { parameters := [.char], returnType := some .boolean }, accessFlags := 9, code := some k15c0 }
/-- java/lang/Character -/
def k15 : Class := { plain "java/lang/Character" (some 0) with
  accessFlags := 49
  interfaces := #[2, 3, 5]
  cf := some (fileOf pool15 1 #[.nestMembers #[48, 595, 307, 597]] #[{ accessFlags := 9, nameIndex := 531, descriptorIndex := 81, attributes := #[] }] 49 42 #[385, 387, 389] #[{ accessFlags := 25, nameIndex := 391, descriptorIndex := 392, attributes := #[] }, { accessFlags := 25, nameIndex := 395, descriptorIndex := 392, attributes := #[] }, { accessFlags := 25, nameIndex := 397, descriptorIndex := 22, attributes := #[] }, { accessFlags := 25, nameIndex := 399, descriptorIndex := 22, attributes := #[] }, { accessFlags := 25, nameIndex := 383, descriptorIndex := 384, attributes := #[] }, { accessFlags := 25, nameIndex := 403, descriptorIndex := 404, attributes := #[] }, { accessFlags := 25, nameIndex := 405, descriptorIndex := 404, attributes := #[] }, { accessFlags := 25, nameIndex := 407, descriptorIndex := 404, attributes := #[] }, { accessFlags := 25, nameIndex := 408, descriptorIndex := 404, attributes := #[] }, { accessFlags := 25, nameIndex := 410, descriptorIndex := 404, attributes := #[] }, { accessFlags := 25, nameIndex := 412, descriptorIndex := 404, attributes := #[] }, { accessFlags := 25, nameIndex := 414, descriptorIndex := 404, attributes := #[] }, { accessFlags := 25, nameIndex := 416, descriptorIndex := 404, attributes := #[] }, { accessFlags := 25, nameIndex := 418, descriptorIndex := 404, attributes := #[] }, { accessFlags := 25, nameIndex := 420, descriptorIndex := 404, attributes := #[] }, { accessFlags := 25, nameIndex := 422, descriptorIndex := 404, attributes := #[] }, { accessFlags := 25, nameIndex := 424, descriptorIndex := 404, attributes := #[] }, { accessFlags := 25, nameIndex := 426, descriptorIndex := 404, attributes := #[] }, { accessFlags := 25, nameIndex := 428, descriptorIndex := 404, attributes := #[] }, { accessFlags := 25, nameIndex := 430, descriptorIndex := 404, attributes := #[] }, { accessFlags := 25, nameIndex := 432, descriptorIndex := 404, attributes := #[] }, { accessFlags := 25, nameIndex := 434, descriptorIndex := 404, attributes := #[] }, { accessFlags := 25, nameIndex := 436, descriptorIndex := 404, attributes := #[] }, { accessFlags := 25, nameIndex := 438, descriptorIndex := 404, attributes := #[] }, { accessFlags := 25, nameIndex := 440, descriptorIndex := 404, attributes := #[] }, { accessFlags := 25, nameIndex := 442, descriptorIndex := 404, attributes := #[] }, { accessFlags := 25, nameIndex := 444, descriptorIndex := 404, attributes := #[] }, { accessFlags := 25, nameIndex := 446, descriptorIndex := 404, attributes := #[] }, { accessFlags := 25, nameIndex := 448, descriptorIndex := 404, attributes := #[] }, { accessFlags := 25, nameIndex := 450, descriptorIndex := 404, attributes := #[] }, { accessFlags := 25, nameIndex := 452, descriptorIndex := 404, attributes := #[] }, { accessFlags := 25, nameIndex := 454, descriptorIndex := 404, attributes := #[] }, { accessFlags := 25, nameIndex := 456, descriptorIndex := 404, attributes := #[] }, { accessFlags := 25, nameIndex := 458, descriptorIndex := 404, attributes := #[] }, { accessFlags := 25, nameIndex := 460, descriptorIndex := 404, attributes := #[] }, { accessFlags := 24, nameIndex := 462, descriptorIndex := 392, attributes := #[] }, { accessFlags := 25, nameIndex := 464, descriptorIndex := 404, attributes := #[] }, { accessFlags := 25, nameIndex := 465, descriptorIndex := 404, attributes := #[] }, { accessFlags := 25, nameIndex := 466, descriptorIndex := 404, attributes := #[] }, { accessFlags := 25, nameIndex := 467, descriptorIndex := 404, attributes := #[] }, { accessFlags := 25, nameIndex := 468, descriptorIndex := 404, attributes := #[] }, { accessFlags := 25, nameIndex := 469, descriptorIndex := 404, attributes := #[] }, { accessFlags := 25, nameIndex := 470, descriptorIndex := 404, attributes := #[] }, { accessFlags := 25, nameIndex := 471, descriptorIndex := 404, attributes := #[] }, { accessFlags := 25, nameIndex := 472, descriptorIndex := 404, attributes := #[] }, { accessFlags := 25, nameIndex := 473, descriptorIndex := 404, attributes := #[] }, { accessFlags := 25, nameIndex := 474, descriptorIndex := 404, attributes := #[] }, { accessFlags := 25, nameIndex := 475, descriptorIndex := 404, attributes := #[] }, { accessFlags := 25, nameIndex := 476, descriptorIndex := 404, attributes := #[] }, { accessFlags := 25, nameIndex := 477, descriptorIndex := 404, attributes := #[] }, { accessFlags := 25, nameIndex := 478, descriptorIndex := 404, attributes := #[] }, { accessFlags := 25, nameIndex := 479, descriptorIndex := 404, attributes := #[] }, { accessFlags := 25, nameIndex := 480, descriptorIndex := 404, attributes := #[] }, { accessFlags := 25, nameIndex := 481, descriptorIndex := 404, attributes := #[] }, { accessFlags := 25, nameIndex := 482, descriptorIndex := 404, attributes := #[] }, { accessFlags := 25, nameIndex := 484, descriptorIndex := 404, attributes := #[] }, { accessFlags := 25, nameIndex := 485, descriptorIndex := 404, attributes := #[] }, { accessFlags := 25, nameIndex := 486, descriptorIndex := 404, attributes := #[] }, { accessFlags := 25, nameIndex := 487, descriptorIndex := 404, attributes := #[] }, { accessFlags := 25, nameIndex := 488, descriptorIndex := 404, attributes := #[] }, { accessFlags := 25, nameIndex := 489, descriptorIndex := 22, attributes := #[] }, { accessFlags := 25, nameIndex := 490, descriptorIndex := 22, attributes := #[] }, { accessFlags := 25, nameIndex := 492, descriptorIndex := 22, attributes := #[] }, { accessFlags := 25, nameIndex := 493, descriptorIndex := 22, attributes := #[] }, { accessFlags := 25, nameIndex := 495, descriptorIndex := 22, attributes := #[] }, { accessFlags := 25, nameIndex := 496, descriptorIndex := 22, attributes := #[] }, { accessFlags := 25, nameIndex := 497, descriptorIndex := 392, attributes := #[] }, { accessFlags := 25, nameIndex := 498, descriptorIndex := 392, attributes := #[] }, { accessFlags := 25, nameIndex := 499, descriptorIndex := 392, attributes := #[] }, { accessFlags := 18, nameIndex := 21, descriptorIndex := 22, attributes := #[] }, { accessFlags := 26, nameIndex := 501, descriptorIndex := 502, attributes := #[] }, { accessFlags := 25, nameIndex := 505, descriptorIndex := 392, attributes := #[] }, { accessFlags := 25, nameIndex := 506, descriptorIndex := 392, attributes := #[] }, { accessFlags := 4120, nameIndex := 284, descriptorIndex := 285, attributes := #[] }])
  fields := #[{ name := "MIN_RADIX", type := .int, accessFlags := 25, slot := 0, constantValue := 0 }, { name := "MAX_RADIX", type := .int, accessFlags := 25, slot := 1, constantValue := 0 }, { name := "MIN_VALUE", type := .char, accessFlags := 25, slot := 2, constantValue := 0 }, { name := "MAX_VALUE", type := .char, accessFlags := 25, slot := 3, constantValue := 0 }, { name := "TYPE", type := (.object "java/lang/Class"), accessFlags := 25, slot := 4, constantValue := 0 }, { name := "UNASSIGNED", type := .byte, accessFlags := 25, slot := 5, constantValue := 0 }, { name := "UPPERCASE_LETTER", type := .byte, accessFlags := 25, slot := 6, constantValue := 0 }, { name := "LOWERCASE_LETTER", type := .byte, accessFlags := 25, slot := 7, constantValue := 0 }, { name := "TITLECASE_LETTER", type := .byte, accessFlags := 25, slot := 8, constantValue := 0 }, { name := "MODIFIER_LETTER", type := .byte, accessFlags := 25, slot := 9, constantValue := 0 }, { name := "OTHER_LETTER", type := .byte, accessFlags := 25, slot := 10, constantValue := 0 }, { name := "NON_SPACING_MARK", type := .byte, accessFlags := 25, slot := 11, constantValue := 0 }, { name := "ENCLOSING_MARK", type := .byte, accessFlags := 25, slot := 12, constantValue := 0 }, { name := "COMBINING_SPACING_MARK", type := .byte, accessFlags := 25, slot := 13, constantValue := 0 }, { name := "DECIMAL_DIGIT_NUMBER", type := .byte, accessFlags := 25, slot := 14, constantValue := 0 }, { name := "LETTER_NUMBER", type := .byte, accessFlags := 25, slot := 15, constantValue := 0 }, { name := "OTHER_NUMBER", type := .byte, accessFlags := 25, slot := 16, constantValue := 0 }, { name := "SPACE_SEPARATOR", type := .byte, accessFlags := 25, slot := 17, constantValue := 0 }, { name := "LINE_SEPARATOR", type := .byte, accessFlags := 25, slot := 18, constantValue := 0 }, { name := "PARAGRAPH_SEPARATOR", type := .byte, accessFlags := 25, slot := 19, constantValue := 0 }, { name := "CONTROL", type := .byte, accessFlags := 25, slot := 20, constantValue := 0 }, { name := "FORMAT", type := .byte, accessFlags := 25, slot := 21, constantValue := 0 }, { name := "PRIVATE_USE", type := .byte, accessFlags := 25, slot := 22, constantValue := 0 }, { name := "SURROGATE", type := .byte, accessFlags := 25, slot := 23, constantValue := 0 }, { name := "DASH_PUNCTUATION", type := .byte, accessFlags := 25, slot := 24, constantValue := 0 }, { name := "START_PUNCTUATION", type := .byte, accessFlags := 25, slot := 25, constantValue := 0 }, { name := "END_PUNCTUATION", type := .byte, accessFlags := 25, slot := 26, constantValue := 0 }, { name := "CONNECTOR_PUNCTUATION", type := .byte, accessFlags := 25, slot := 27, constantValue := 0 }, { name := "OTHER_PUNCTUATION", type := .byte, accessFlags := 25, slot := 28, constantValue := 0 }, { name := "MATH_SYMBOL", type := .byte, accessFlags := 25, slot := 29, constantValue := 0 }, { name := "CURRENCY_SYMBOL", type := .byte, accessFlags := 25, slot := 30, constantValue := 0 }, { name := "MODIFIER_SYMBOL", type := .byte, accessFlags := 25, slot := 31, constantValue := 0 }, { name := "OTHER_SYMBOL", type := .byte, accessFlags := 25, slot := 32, constantValue := 0 }, { name := "INITIAL_QUOTE_PUNCTUATION", type := .byte, accessFlags := 25, slot := 33, constantValue := 0 }, { name := "FINAL_QUOTE_PUNCTUATION", type := .byte, accessFlags := 25, slot := 34, constantValue := 0 }, { name := "ERROR", type := .int, accessFlags := 24, slot := 35, constantValue := 0 }, { name := "DIRECTIONALITY_UNDEFINED", type := .byte, accessFlags := 25, slot := 36, constantValue := 0 }, { name := "DIRECTIONALITY_LEFT_TO_RIGHT", type := .byte, accessFlags := 25, slot := 37, constantValue := 0 }, { name := "DIRECTIONALITY_RIGHT_TO_LEFT", type := .byte, accessFlags := 25, slot := 38, constantValue := 0 }, { name := "DIRECTIONALITY_RIGHT_TO_LEFT_ARABIC", type := .byte, accessFlags := 25, slot := 39, constantValue := 0 }, { name := "DIRECTIONALITY_EUROPEAN_NUMBER", type := .byte, accessFlags := 25, slot := 40, constantValue := 0 }, { name := "DIRECTIONALITY_EUROPEAN_NUMBER_SEPARATOR", type := .byte, accessFlags := 25, slot := 41, constantValue := 0 }, { name := "DIRECTIONALITY_EUROPEAN_NUMBER_TERMINATOR", type := .byte, accessFlags := 25, slot := 42, constantValue := 0 }, { name := "DIRECTIONALITY_ARABIC_NUMBER", type := .byte, accessFlags := 25, slot := 43, constantValue := 0 }, { name := "DIRECTIONALITY_COMMON_NUMBER_SEPARATOR", type := .byte, accessFlags := 25, slot := 44, constantValue := 0 }, { name := "DIRECTIONALITY_NONSPACING_MARK", type := .byte, accessFlags := 25, slot := 45, constantValue := 0 }, { name := "DIRECTIONALITY_BOUNDARY_NEUTRAL", type := .byte, accessFlags := 25, slot := 46, constantValue := 0 }, { name := "DIRECTIONALITY_PARAGRAPH_SEPARATOR", type := .byte, accessFlags := 25, slot := 47, constantValue := 0 }, { name := "DIRECTIONALITY_SEGMENT_SEPARATOR", type := .byte, accessFlags := 25, slot := 48, constantValue := 0 }, { name := "DIRECTIONALITY_WHITESPACE", type := .byte, accessFlags := 25, slot := 49, constantValue := 0 }, { name := "DIRECTIONALITY_OTHER_NEUTRALS", type := .byte, accessFlags := 25, slot := 50, constantValue := 0 }, { name := "DIRECTIONALITY_LEFT_TO_RIGHT_EMBEDDING", type := .byte, accessFlags := 25, slot := 51, constantValue := 0 }, { name := "DIRECTIONALITY_LEFT_TO_RIGHT_OVERRIDE", type := .byte, accessFlags := 25, slot := 52, constantValue := 0 }, { name := "DIRECTIONALITY_RIGHT_TO_LEFT_EMBEDDING", type := .byte, accessFlags := 25, slot := 53, constantValue := 0 }, { name := "DIRECTIONALITY_RIGHT_TO_LEFT_OVERRIDE", type := .byte, accessFlags := 25, slot := 54, constantValue := 0 }, { name := "DIRECTIONALITY_POP_DIRECTIONAL_FORMAT", type := .byte, accessFlags := 25, slot := 55, constantValue := 0 }, { name := "DIRECTIONALITY_LEFT_TO_RIGHT_ISOLATE", type := .byte, accessFlags := 25, slot := 56, constantValue := 0 }, { name := "DIRECTIONALITY_RIGHT_TO_LEFT_ISOLATE", type := .byte, accessFlags := 25, slot := 57, constantValue := 0 }, { name := "DIRECTIONALITY_FIRST_STRONG_ISOLATE", type := .byte, accessFlags := 25, slot := 58, constantValue := 0 }, { name := "DIRECTIONALITY_POP_DIRECTIONAL_ISOLATE", type := .byte, accessFlags := 25, slot := 59, constantValue := 0 }, { name := "MIN_HIGH_SURROGATE", type := .char, accessFlags := 25, slot := 60, constantValue := 0 }, { name := "MAX_HIGH_SURROGATE", type := .char, accessFlags := 25, slot := 61, constantValue := 0 }, { name := "MIN_LOW_SURROGATE", type := .char, accessFlags := 25, slot := 62, constantValue := 0 }, { name := "MAX_LOW_SURROGATE", type := .char, accessFlags := 25, slot := 63, constantValue := 0 }, { name := "MIN_SURROGATE", type := .char, accessFlags := 25, slot := 64, constantValue := 0 }, { name := "MAX_SURROGATE", type := .char, accessFlags := 25, slot := 65, constantValue := 0 }, { name := "MIN_SUPPLEMENTARY_CODE_POINT", type := .int, accessFlags := 25, slot := 66, constantValue := 0 }, { name := "MIN_CODE_POINT", type := .int, accessFlags := 25, slot := 67, constantValue := 0 }, { name := "MAX_CODE_POINT", type := .int, accessFlags := 25, slot := 68, constantValue := 0 }, { name := "value", type := .char, accessFlags := 18, slot := 0, constantValue := 0 }, { name := "serialVersionUID", type := .long, accessFlags := 26, slot := 69, constantValue := 0 }, { name := "SIZE", type := .int, accessFlags := 25, slot := 70, constantValue := 0 }, { name := "BYTES", type := .int, accessFlags := 25, slot := 71, constantValue := 0 }, { name := "$assertionsDisabled", type := .boolean, accessFlags := 4120, slot := 72, constantValue := 0 }]
  methods := #[k15m0]
  instanceTypes := #[.char]
  staticTypes := #[.int, .int, .char, .char, (.object "java/lang/Class"), .byte, .byte, .byte, .byte, .byte, .byte, .byte, .byte, .byte, .byte, .byte, .byte, .byte, .byte, .byte, .byte, .byte, .byte, .byte, .byte, .byte, .byte, .byte, .byte, .byte, .byte, .byte, .byte, .byte, .byte, .int, .byte, .byte, .byte, .byte, .byte, .byte, .byte, .byte, .byte, .byte, .byte, .byte, .byte, .byte, .byte, .byte, .byte, .byte, .byte, .byte, .byte, .byte, .byte, .byte, .char, .char, .char, .char, .char, .char, .int, .int, .int, .long, .int, .int, .boolean]
  resolved := Array.replicate 604 none
  statics := none }

def pool16 : Array CpInfo := pool [(9, u "<init>"), (6, .class_ 18), (1, u "java/lang/Object"), (0, u "()V"), (1, .class_ 23), (1, u "jdk/internal/util/ArraysSupport"), (0, u "LOG2_ARRAY_LONG_INDEX_SCALE"), (0, u "I"), (2, u "U"), (0, u "Ljdk/internal/misc/Unsafe;"), (8, u "BIG_ENDIAN"), (0, u "Z"), (8, u "LOG2_BYTE_BIT_SIZE"), (4, u "LOG2_ARRAY_INT_INDEX_SCALE"), (54, u "JLA"), (0, u "Ljdk/internal/access/JavaLangAccess;"), (11, u "LOG2_ARRAY_BOOLEAN_INDEX_SCALE"), (9, u "LOG2_ARRAY_BYTE_INDEX_SCALE"), (5, u "LOG2_ARRAY_CHAR_INDEX_SCALE"), (5, u "LOG2_ARRAY_SHORT_INDEX_SCALE"), (18, u "LOG2_ARRAY_FLOAT_INDEX_SCALE"), (24, u "LOG2_ARRAY_DOUBLE_INDEX_SCALE"), (89, u "T_BOOLEAN"), (2, u "T_CHAR"), (1, u "T_FLOAT"), (1, u "T_DOUBLE"), (1, u "T_BYTE"), (1, u "T_SHORT"), (1, u "T_INT"), (1, u "T_LONG"), (1, u "SOFT_MAX_ARRAY_LENGTH")] 83

def k16m0 : Method := { name := "<init>", desc := "()V", sig := { parameters := [], returnType := none }, accessFlags := 2, code := none }
/-- jdk/internal/util/ArraysSupport -/
def k16 : Class := { plain "jdk/internal/util/ArraysSupport" (some 0) with
  accessFlags := 33
  interfaces := #[]
  cf := some (fileOf pool16 21 #[] #[{ accessFlags := 2, nameIndex := 9, descriptorIndex := 19, attributes := #[] }] 33 16 #[] #[{ accessFlags := 24, nameIndex := 28, descriptorIndex := 29, attributes := #[] }, { accessFlags := 26, nameIndex := 38, descriptorIndex := 39, attributes := #[] }, { accessFlags := 25, nameIndex := 121, descriptorIndex := 25, attributes := #[] }, { accessFlags := 25, nameIndex := 131, descriptorIndex := 25, attributes := #[] }, { accessFlags := 25, nameIndex := 137, descriptorIndex := 25, attributes := #[] }, { accessFlags := 25, nameIndex := 143, descriptorIndex := 25, attributes := #[] }, { accessFlags := 25, nameIndex := 53, descriptorIndex := 25, attributes := #[] }, { accessFlags := 25, nameIndex := 24, descriptorIndex := 25, attributes := #[] }, { accessFlags := 25, nameIndex := 162, descriptorIndex := 25, attributes := #[] }, { accessFlags := 25, nameIndex := 187, descriptorIndex := 25, attributes := #[] }, { accessFlags := 26, nameIndex := 48, descriptorIndex := 25, attributes := #[] }, { accessFlags := 25, nameIndex := 277, descriptorIndex := 25, attributes := #[] }, { accessFlags := 25, nameIndex := 280, descriptorIndex := 25, attributes := #[] }, { accessFlags := 25, nameIndex := 282, descriptorIndex := 25, attributes := #[] }, { accessFlags := 25, nameIndex := 284, descriptorIndex := 25, attributes := #[] }, { accessFlags := 25, nameIndex := 286, descriptorIndex := 25, attributes := #[] }, { accessFlags := 25, nameIndex := 288, descriptorIndex := 25, attributes := #[] }, { accessFlags := 25, nameIndex := 290, descriptorIndex := 25, attributes := #[] }, { accessFlags := 25, nameIndex := 292, descriptorIndex := 25, attributes := #[] }, { accessFlags := 26, nameIndex := 108, descriptorIndex := 109, attributes := #[] }, { accessFlags := 25, nameIndex := 294, descriptorIndex := 25, attributes := #[] }])
  fields := #[{ name := "U", type := (.object "jdk/internal/misc/Unsafe"), accessFlags := 24, slot := 0, constantValue := 0 }, { name := "BIG_ENDIAN", type := .boolean, accessFlags := 26, slot := 1, constantValue := 0 }, { name := "LOG2_ARRAY_BOOLEAN_INDEX_SCALE", type := .int, accessFlags := 25, slot := 2, constantValue := 0 }, { name := "LOG2_ARRAY_BYTE_INDEX_SCALE", type := .int, accessFlags := 25, slot := 3, constantValue := 0 }, { name := "LOG2_ARRAY_CHAR_INDEX_SCALE", type := .int, accessFlags := 25, slot := 4, constantValue := 0 }, { name := "LOG2_ARRAY_SHORT_INDEX_SCALE", type := .int, accessFlags := 25, slot := 5, constantValue := 0 }, { name := "LOG2_ARRAY_INT_INDEX_SCALE", type := .int, accessFlags := 25, slot := 6, constantValue := 0 }, { name := "LOG2_ARRAY_LONG_INDEX_SCALE", type := .int, accessFlags := 25, slot := 7, constantValue := 0 }, { name := "LOG2_ARRAY_FLOAT_INDEX_SCALE", type := .int, accessFlags := 25, slot := 8, constantValue := 0 }, { name := "LOG2_ARRAY_DOUBLE_INDEX_SCALE", type := .int, accessFlags := 25, slot := 9, constantValue := 0 }, { name := "LOG2_BYTE_BIT_SIZE", type := .int, accessFlags := 26, slot := 10, constantValue := 0 }, { name := "T_BOOLEAN", type := .int, accessFlags := 25, slot := 11, constantValue := 0 }, { name := "T_CHAR", type := .int, accessFlags := 25, slot := 12, constantValue := 0 }, { name := "T_FLOAT", type := .int, accessFlags := 25, slot := 13, constantValue := 0 }, { name := "T_DOUBLE", type := .int, accessFlags := 25, slot := 14, constantValue := 0 }, { name := "T_BYTE", type := .int, accessFlags := 25, slot := 15, constantValue := 0 }, { name := "T_SHORT", type := .int, accessFlags := 25, slot := 16, constantValue := 0 }, { name := "T_INT", type := .int, accessFlags := 25, slot := 17, constantValue := 0 }, { name := "T_LONG", type := .int, accessFlags := 25, slot := 18, constantValue := 0 }, { name := "JLA", type := (.object "jdk/internal/access/JavaLangAccess"), accessFlags := 26, slot := 19, constantValue := 0 }, { name := "SOFT_MAX_ARRAY_LENGTH", type := .int, accessFlags := 25, slot := 20, constantValue := 0 }]
  methods := #[k16m0]
  instanceTypes := #[]
  staticTypes := #[(.object "jdk/internal/misc/Unsafe"), .boolean, .int, .int, .int, .int, .int, .int, .int, .int, .int, .int, .int, .int, .int, .int, .int, .int, .int, (.object "jdk/internal/access/JavaLangAccess"), .int]
  resolved := Array.replicate 378 none
  statics := none }

def pool17 : Array CpInfo := pool [(1, u "java/lang/Cloneable"), (0, .class_ 1), (0, u "java/lang/Object"), (0, .class_ 3)] 3

/-- java/lang/Cloneable -/
def k17 : Class := { plain "java/lang/Cloneable" (some 0) with
  accessFlags := 1537
  interfaces := #[]
  cf := some (fileOf pool17 2 #[] #[] 1537 4 #[] #[])
  fields := #[]
  methods := #[]
  instanceTypes := #[]
  staticTypes := #[]
  resolved := Array.replicate 8 none
  statics := none }

/-- the primitive byte -/
def k18 : Class := { plain "byte" none with kind := .primitive 'B', accessFlags := 0x411 }
/-- [B -/
def k19 : Class := { plain "[B" (some 0) with kind := .array 18 .byte, interfaces := #[17, 2], accessFlags := 1041 }

/-- the primitive char -/
def k20 : Class := { plain "char" none with kind := .primitive 'C', accessFlags := 0x411 }
/-- [C -/
def k21 : Class := { plain "[C" (some 0) with kind := .array 20 .char, interfaces := #[17, 2], accessFlags := 1041 }

/-- the primitive int -/
def k22 : Class := { plain "int" none with kind := .primitive 'I', accessFlags := 0x411 }
/-- [I -/
def k23 : Class := { plain "[I" (some 0) with kind := .array 22 .int, interfaces := #[17, 2], accessFlags := 1041 }

def heap : Heap := #[{ cls := 7, slots := #[.long 0, .int 1, .null, .int 0, .null, .int 0, .int 0], vm := .statics 7 },
  { cls := 13, slots := #[.int 0, .int 8, .int 0, .int 1], vm := .statics 13 },
  { cls := 14, slots := #[.null, .null, .null], vm := .statics 14 }]
def classes : Array Class := #[k0, k1, k2, k3, k4, k5, k6, k7, k8, k9, k10, k11, k12, k13, k14, k15, k16, k17, k18, k19, k20, k21, k22, k23]
def interned : List (Array UInt16 × Addr) := []
def slotsUsed : Nat := 14
def theMethod : MethodId := ⟨1, 1⟩
def args0 : Array Value := #[.int 5, .int 6, .int 7, .int 8, .int 9]
def aboutOver (below : List Frame) : State where
  vm := { classes := classes, interned := interned.toArray }
  heap := heap
  slotsUsed := slotsUsed
  threads := #[{ frames := .invoking theMethod args0 :: below }]
def below0 : List Frame := [.native { method := ⟨0, 0⟩, args := #[] }]
def about1 : State := aboutOver below0
def p0 : Program := .bare "" "" ""
def e0 : Env := launch0.env 0 0 0
theorem w_frames : about1.frames = Frame.invoking theMethod args0 :: below0 := rfl
set_option maxRecDepth 65536 in
theorem w_args : argsFit about1.vm theMethod args0 = true := by decide +kernel
set_option maxRecDepth 65536 in
theorem w_heap : heapFits about1 = true := by decide +kernel
set_option maxRecDepth 65536 in
theorem w_runnable : about1.curStatus? = some .runnable := by decide +kernel
set_option maxRecDepth 65536 in
theorem w_alone : about1.alone = true := by decide +kernel
set_option maxRecDepth 65536 in
theorem w_named : about1.methodNamed? x = some theMethod := by decide +kernel
set_option maxRecDepth 65536 in
theorem w_hears : about1.hears theMethod below0 = true := by decide +kernel
set_option maxRecDepth 65536 in
theorem w_ripe : about1.ripe theMethod args0 below0 = true := by decide +kernel
theorem w_running : about1.status = .running := rfl
set_option maxRecDepth 65536 in
theorem w_room : about1.hasRoom e0.platform room_1 = true :=
  launch0.hasRoom_least _ room_1 (by decide +kernel) (by decide +kernel) (by decide +kernel) (by decide +kernel) (by decide +kernel) (by decide +kernel)
theorem allAtoms_all (ts : List Jvm.Cond) (a : Array Jvm.Value) (st : Jvm.State) : (allAtoms ts).before a st = ts.all (fun c => c.before a st) := by
  induction ts with
  | nil => rfl
  | cons c t ih =>
    show (Jvm.Cond.and c (allAtoms t)).before a st = _
    rw [Jvm.Cond.before_and, ih, List.all_cons]
def words1 : List Jvm.Cond := Jvm.Cond.code x code maxLocals ret :: tables_1
/-- a 'code' word, met by the world's own term for the bytes: nothing is compared byte by byte -/
theorem code_word {y : MethodName} {bytes : ByteArray} {mx : Nat} {rt : Option FieldType} {a : Array Value} {s : State} {m : MethodId} {meth : Method} {c : Code} (h1 : s.methodNamed? y = some m) (h2 : s.vm.method? m = some meth) (h3 : meth.code = some c) (h4 : c.code = bytes)
    (h5 : (c.maxLocals == mx && c.exceptionTable.isEmpty && decide (c.maxStack ≤ mostOperands) && decide (meth.sig.returnType = rt) && !meth.locks && decide (parseMethodDescriptor y.desc = some meth.sig)) = true) : (Jvm.Cond.code y bytes mx rt).before a s = true := by
  simp only [Bool.and_eq_true, beq_iff_eq, Bool.not_eq_true', decide_eq_true_eq] at h5
  obtain ⟨⟨⟨⟨⟨g1, g2⟩, g3⟩, g4⟩, g5⟩, g6⟩ := h5
  simp [Cond.before, Cond.holds, Cond.value, h1, h2, h3, h4, g1, g2, g3, g4, g5, g6]
def isCode : Jvm.Cond → Bool
  | .code _ _ _ _ => true
  | _ => false
theorem all_split {L : List Jvm.Cond} {P : Jvm.Cond → Bool} (h1 : L.all (fun c => isCode c || P c) = true) (h2 : ∀ c ∈ L.filter isCode, P c = true) : L.all P = true := by
  refine List.all_eq_true.mpr fun c hc => ?_
  have h := List.all_eq_true.mp h1 c hc
  rcases Bool.eq_false_or_eq_true (isCode c) with hi | hi
  · exact h2 c (List.mem_filter.mpr ⟨hc, hi⟩)
  · simpa [hi] using h
set_option maxRecDepth 65536 in
theorem w_c0 : (Jvm.Cond.code x code maxLocals ret).before args0 about1 = true := code_word (m := ⟨1, 1⟩) (meth := k1m1) (c := k1c1) (by decide +kernel) rfl rfl rfl (by decide +kernel)
set_option maxRecDepth 65536 in
theorem w_c1 : (Jvm.Cond.code ({ cls := "com/example/tuned_odds/tunedodds/retrieval/CodePointOrderComparePinLaw", name := "cp", desc := "(I)I" } : Jvm.MethodName) method_3_code (2 : Nat) (Option.some Jvm.ClassFile.FieldType.int)).before args0 about1 = true := code_word (m := ⟨1, 2⟩) (meth := k1m2) (c := k1c2) (by decide +kernel) rfl rfl rfl (by decide +kernel)
set_option maxRecDepth 65536 in
theorem w_c2 : (Jvm.Cond.code ({ cls := "com/example/tuned_odds/tunedodds/retrieval/CodePointOrderComparePinLaw", name := "enc", desc := "(III)Ljava/lang/String;" } : Jvm.MethodName) method_8_code (5 : Nat) (Option.some (Jvm.ClassFile.FieldType.object "java/lang/String"))).before args0 about1 = true := code_word (m := ⟨1, 7⟩) (meth := k1m7) (c := k1c7) (by decide +kernel) rfl rfl rfl (by decide +kernel)
set_option maxRecDepth 65536 in
theorem w_c3 : (Jvm.Cond.code ({ cls := "java/lang/String", name := "<init>", desc := "([C)V" } : Jvm.MethodName) jdk_42_method_3_code (2 : Nat) (Option.none : Option Jvm.ClassFile.FieldType)).before args0 about1 = true := code_word (m := ⟨7, 1⟩) (meth := k7m1) (c := k7c1) (by decide +kernel) rfl rfl rfl (by decide +kernel)
set_option maxRecDepth 65536 in
theorem w_c4 : (Jvm.Cond.code ({ cls := "java/lang/String", name := "<init>", desc := "([CIILjava/lang/Void;)V" } : Jvm.MethodName) jdk_42_method_149_code (6 : Nat) (Option.none : Option Jvm.ClassFile.FieldType)).before args0 about1 = true := code_word (m := ⟨7, 5⟩) (meth := k7m5) (c := k7c5) (by decide +kernel) rfl rfl rfl (by decide +kernel)
set_option maxRecDepth 65536 in
theorem w_c5 : (Jvm.Cond.code ({ cls := "java/lang/Object", name := "<init>", desc := "()V" } : Jvm.MethodName) object_method_1_code (1 : Nat) (Option.none : Option Jvm.ClassFile.FieldType)).before args0 about1 = true := code_word (m := ⟨0, 0⟩) (meth := k0m0) (c := k0c0) (by decide +kernel) rfl rfl rfl (by decide +kernel)
set_option maxRecDepth 65536 in
theorem w_c6 : (Jvm.Cond.code ({ cls := "com/example/tuned_odds/tunedodds/retrieval/CodePointOrderComparePinLaw", name := "sgn", desc := "(I)I" } : Jvm.MethodName) method_4_code (1 : Nat) (Option.some Jvm.ClassFile.FieldType.int)).before args0 about1 = true := code_word (m := ⟨1, 3⟩) (meth := k1m3) (c := k1c3) (by decide +kernel) rfl rfl rfl (by decide +kernel)
set_option maxRecDepth 65536 in
theorem w_c7 : (Jvm.Cond.code ({ cls := "com/example/tuned_odds/tunedodds/retrieval/CodePointOrder", name := "compare", desc := "(Ljava/lang/String;Ljava/lang/String;)I" } : Jvm.MethodName) prog_42_method_2_code (6 : Nat) (Option.some Jvm.ClassFile.FieldType.int)).before args0 about1 = true := code_word (m := ⟨8, 1⟩) (meth := k8m1) (c := k8c1) (by decide +kernel) rfl rfl rfl (by decide +kernel)
set_option maxRecDepth 65536 in
theorem w_c8 : (Jvm.Cond.code ({ cls := "java/lang/String", name := "length", desc := "()I" } : Jvm.MethodName) jdk_42_method_54_code (1 : Nat) (Option.some Jvm.ClassFile.FieldType.int)).before args0 about1 = true := code_word (m := ⟨7, 2⟩) (meth := k7m2) (c := k7c2) (by decide +kernel) rfl rfl rfl (by decide +kernel)
set_option maxRecDepth 65536 in
theorem w_c9 : (Jvm.Cond.code ({ cls := "java/lang/String", name := "coder", desc := "()B" } : Jvm.MethodName) jdk_42_method_152_code (1 : Nat) (Option.some Jvm.ClassFile.FieldType.byte)).before args0 about1 = true := code_word (m := ⟨7, 7⟩) (meth := k7m7) (c := k7c7) (by decide +kernel) rfl rfl rfl (by decide +kernel)
set_option maxRecDepth 65536 in
theorem w_c10 : (Jvm.Cond.code ({ cls := "java/lang/Math", name := "min", desc := "(II)I" } : Jvm.MethodName) jdk_29_method_69_code (2 : Nat) (Option.some Jvm.ClassFile.FieldType.int)).before args0 about1 = true := code_word (m := ⟨9, 1⟩) (meth := k9m1) (c := k9c1) (by decide +kernel) rfl rfl rfl (by decide +kernel)
set_option maxRecDepth 65536 in
theorem w_c11 : (Jvm.Cond.code ({ cls := "java/lang/Integer", name := "compare", desc := "(II)I" } : Jvm.MethodName) jdk_33_method_40_code (2 : Nat) (Option.some Jvm.ClassFile.FieldType.int)).before args0 about1 = true := code_word (m := ⟨11, 0⟩) (meth := k11m0) (c := k11c0) (by decide +kernel) rfl rfl rfl (by decide +kernel)
set_option maxRecDepth 65536 in
theorem w_c12 : (Jvm.Cond.code ({ cls := "com/example/tuned_odds/tunedodds/retrieval/CodePointOrderComparePinLaw", name := "one", desc := "(I)Ljava/lang/String;" } : Jvm.MethodName) method_7_code (1 : Nat) (Option.some (Jvm.ClassFile.FieldType.object "java/lang/String"))).before args0 about1 = true := code_word (m := ⟨1, 6⟩) (meth := k1m6) (c := k1c6) (by decide +kernel) rfl rfl rfl (by decide +kernel)
set_option maxRecDepth 65536 in
theorem w_c13 : (Jvm.Cond.code ({ cls := "java/lang/String", name := "valueOf", desc := "(C)Ljava/lang/String;" } : Jvm.MethodName) jdk_42_method_139_code (1 : Nat) (Option.some (Jvm.ClassFile.FieldType.object "java/lang/String"))).before args0 about1 = true := code_word (m := ⟨7, 4⟩) (meth := k7m4) (c := k7c4) (by decide +kernel) rfl rfl rfl (by decide +kernel)
set_option maxRecDepth 65536 in
theorem w_c14 : (Jvm.Cond.code ({ cls := "java/lang/StringLatin1", name := "canEncode", desc := "(C)Z" } : Jvm.MethodName) jdk_43_method_3_code (1 : Nat) (Option.some Jvm.ClassFile.FieldType.boolean)).before args0 about1 = true := code_word (m := ⟨12, 2⟩) (meth := k12m2) (c := k12c2) (by decide +kernel) rfl rfl rfl (by decide +kernel)
set_option maxRecDepth 65536 in
theorem w_c15 : (Jvm.Cond.code ({ cls := "java/lang/StringLatin1", name := "toBytes", desc := "(C)[B" } : Jvm.MethodName) jdk_43_method_46_code (1 : Nat) (Option.some (Jvm.ClassFile.FieldType.array Jvm.ClassFile.FieldType.byte))).before args0 about1 = true := code_word (m := ⟨12, 3⟩) (meth := k12m3) (c := k12c3) (by decide +kernel) rfl rfl rfl (by decide +kernel)
set_option maxRecDepth 65536 in
theorem w_c16 : (Jvm.Cond.code ({ cls := "java/lang/String", name := "<init>", desc := "([BB)V" } : Jvm.MethodName) jdk_42_method_151_code (3 : Nat) (Option.none : Option Jvm.ClassFile.FieldType)).before args0 about1 = true := code_word (m := ⟨7, 6⟩) (meth := k7m6) (c := k7c6) (by decide +kernel) rfl rfl rfl (by decide +kernel)
set_option maxRecDepth 65536 in
theorem w_c17 : (Jvm.Cond.code ({ cls := "java/lang/StringUTF16", name := "compress", desc := "([CII)[B" } : Jvm.MethodName) jdk_52_method_16_code (6 : Nat) (Option.some (Jvm.ClassFile.FieldType.array Jvm.ClassFile.FieldType.byte))).before args0 about1 = true := code_word (m := ⟨13, 8⟩) (meth := k13m8) (c := k13c8) (by decide +kernel) rfl rfl rfl (by decide +kernel)
set_option maxRecDepth 65536 in
theorem w_c18 : (Jvm.Cond.code ({ cls := "java/lang/StringUTF16", name := "compress", desc := "([CI[BII)I" } : Jvm.MethodName) jdk_52_method_21_code (7 : Nat) (Option.some Jvm.ClassFile.FieldType.int)).before args0 about1 = true := code_word (m := ⟨13, 9⟩) (meth := k13m9) (c := k13c9) (by decide +kernel) rfl rfl rfl (by decide +kernel)
set_option maxRecDepth 65536 in
theorem w_c19 : (Jvm.Cond.code ({ cls := "java/lang/StringUTF16", name := "coderFromArrayLen", desc := "([BI)B" } : Jvm.MethodName) jdk_52_method_15_code (2 : Nat) (Option.some Jvm.ClassFile.FieldType.byte)).before args0 about1 = true := code_word (m := ⟨13, 7⟩) (meth := k13m7) (c := k13c7) (by decide +kernel) rfl rfl rfl (by decide +kernel)
set_option maxRecDepth 65536 in
theorem w_c20 : (Jvm.Cond.code ({ cls := "com/example/tuned_odds/tunedodds/retrieval/CodePointOrderComparePinLaw", name := "hi", desc := "(I)C" } : Jvm.MethodName) method_5_code (1 : Nat) (Option.some Jvm.ClassFile.FieldType.char)).before args0 about1 = true := code_word (m := ⟨1, 4⟩) (meth := k1m4) (c := k1c4) (by decide +kernel) rfl rfl rfl (by decide +kernel)
set_option maxRecDepth 65536 in
theorem w_c21 : (Jvm.Cond.code ({ cls := "com/example/tuned_odds/tunedodds/retrieval/CodePointOrderComparePinLaw", name := "lo", desc := "(I)C" } : Jvm.MethodName) method_6_code (1 : Nat) (Option.some Jvm.ClassFile.FieldType.char)).before args0 about1 = true := code_word (m := ⟨1, 5⟩) (meth := k1m5) (c := k1c5) (by decide +kernel) rfl rfl rfl (by decide +kernel)
set_option maxRecDepth 65536 in
theorem w_c22 : (Jvm.Cond.code ({ cls := "java/lang/StringUTF16", name := "toBytes", desc := "([CII)[B" } : Jvm.MethodName) jdk_52_method_14_code (5 : Nat) (Option.some (Jvm.ClassFile.FieldType.array Jvm.ClassFile.FieldType.byte))).before args0 about1 = true := code_word (m := ⟨13, 6⟩) (meth := k13m6) (c := k13c6) (by decide +kernel) rfl rfl rfl (by decide +kernel)
set_option maxRecDepth 65536 in
theorem w_c23 : (Jvm.Cond.code ({ cls := "java/lang/StringUTF16", name := "newBytesFor", desc := "(I)[B" } : Jvm.MethodName) jdk_52_method_2_code (1 : Nat) (Option.some (Jvm.ClassFile.FieldType.array Jvm.ClassFile.FieldType.byte))).before args0 about1 = true := code_word (m := ⟨13, 1⟩) (meth := k13m1) (c := k13c1) (by decide +kernel) rfl rfl rfl (by decide +kernel)
set_option maxRecDepth 65536 in
theorem w_c24 : (Jvm.Cond.code ({ cls := "java/lang/StringUTF16", name := "newBytesLength", desc := "(I)I" } : Jvm.MethodName) jdk_52_method_3_code (1 : Nat) (Option.some Jvm.ClassFile.FieldType.int)).before args0 about1 = true := code_word (m := ⟨13, 2⟩) (meth := k13m2) (c := k13c2) (by decide +kernel) rfl rfl rfl (by decide +kernel)
set_option maxRecDepth 65536 in
theorem w_c25 : (Jvm.Cond.code ({ cls := "java/lang/StringUTF16", name := "putChar", desc := "([BII)V" } : Jvm.MethodName) jdk_52_method_4_code (3 : Nat) (Option.none : Option Jvm.ClassFile.FieldType)).before args0 about1 = true := code_word (m := ⟨13, 3⟩) (meth := k13m3) (c := k13c3) (by decide +kernel) rfl rfl rfl (by decide +kernel)
set_option maxRecDepth 65536 in
theorem w_c26 : (Jvm.Cond.code ({ cls := "java/lang/StringUTF16", name := "getChar", desc := "([BI)C" } : Jvm.MethodName) jdk_52_method_5_code (2 : Nat) (Option.some Jvm.ClassFile.FieldType.char)).before args0 about1 = true := code_word (m := ⟨13, 4⟩) (meth := k13m4) (c := k13c4) (by decide +kernel) rfl rfl rfl (by decide +kernel)
set_option maxRecDepth 65536 in
theorem w_c27 : (Jvm.Cond.code ({ cls := "java/lang/String", name := "charAt", desc := "(I)C" } : Jvm.MethodName) jdk_42_method_56_code (2 : Nat) (Option.some Jvm.ClassFile.FieldType.char)).before args0 about1 = true := code_word (m := ⟨7, 3⟩) (meth := k7m3) (c := k7c3) (by decide +kernel) rfl rfl rfl (by decide +kernel)
set_option maxRecDepth 65536 in
theorem w_c28 : (Jvm.Cond.code ({ cls := "java/lang/String", name := "isLatin1", desc := "()Z" } : Jvm.MethodName) jdk_42_method_154_code (1 : Nat) (Option.some Jvm.ClassFile.FieldType.boolean)).before args0 about1 = true := code_word (m := ⟨7, 8⟩) (meth := k7m8) (c := k7c8) (by decide +kernel) rfl rfl rfl (by decide +kernel)
set_option maxRecDepth 65536 in
theorem w_c29 : (Jvm.Cond.code ({ cls := "java/lang/StringUTF16", name := "charAt", desc := "([BI)C" } : Jvm.MethodName) jdk_52_method_83_code (2 : Nat) (Option.some Jvm.ClassFile.FieldType.char)).before args0 about1 = true := code_word (m := ⟨13, 11⟩) (meth := k13m11) (c := k13c11) (by decide +kernel) rfl rfl rfl (by decide +kernel)
set_option maxRecDepth 65536 in
theorem w_c30 : (Jvm.Cond.code ({ cls := "java/lang/StringUTF16", name := "checkIndex", desc := "(I[B)V" } : Jvm.MethodName) jdk_52_method_91_code (2 : Nat) (Option.none : Option Jvm.ClassFile.FieldType)).before args0 about1 = true := code_word (m := ⟨13, 12⟩) (meth := k13m12) (c := k13c12) (by decide +kernel) rfl rfl rfl (by decide +kernel)
set_option maxRecDepth 65536 in
theorem w_c31 : (Jvm.Cond.code ({ cls := "java/lang/StringUTF16", name := "length", desc := "([B)I" } : Jvm.MethodName) jdk_52_method_6_code (1 : Nat) (Option.some Jvm.ClassFile.FieldType.int)).before args0 about1 = true := code_word (m := ⟨13, 5⟩) (meth := k13m5) (c := k13c5) (by decide +kernel) rfl rfl rfl (by decide +kernel)
set_option maxRecDepth 65536 in
theorem w_c32 : (Jvm.Cond.code ({ cls := "java/lang/String", name := "checkIndex", desc := "(II)V" } : Jvm.MethodName) jdk_42_method_155_code (2 : Nat) (Option.none : Option Jvm.ClassFile.FieldType)).before args0 about1 = true := code_word (m := ⟨7, 9⟩) (meth := k7m9) (c := k7c9) (by decide +kernel) rfl rfl rfl (by decide +kernel)
set_option maxRecDepth 65536 in
theorem w_c33 : (Jvm.Cond.code ({ cls := "jdk/internal/util/Preconditions", name := "checkIndex", desc := "(IILjava/util/function/BiFunction;)I" } : Jvm.MethodName) jdk_41_method_11_code (3 : Nat) (Option.some Jvm.ClassFile.FieldType.int)).before args0 about1 = true := code_word (m := ⟨14, 1⟩) (meth := k14m1) (c := k14c1) (by decide +kernel) rfl rfl rfl (by decide +kernel)
set_option maxRecDepth 65536 in
theorem w_c34 : (Jvm.Cond.code ({ cls := "java/lang/StringUTF16", name := "toBytes", desc := "(C)[B" } : Jvm.MethodName) jdk_52_method_24_code (2 : Nat) (Option.some (Jvm.ClassFile.FieldType.array Jvm.ClassFile.FieldType.byte))).before args0 about1 = true := code_word (m := ⟨13, 10⟩) (meth := k13m10) (c := k13c10) (by decide +kernel) rfl rfl rfl (by decide +kernel)
set_option maxRecDepth 65536 in
theorem w_c35 : (Jvm.Cond.code ({ cls := "com/example/tuned_odds/tunedodds/retrieval/CodePointOrder", name := "rank", desc := "(C)I" } : Jvm.MethodName) prog_42_method_3_code (2 : Nat) (Option.some Jvm.ClassFile.FieldType.int)).before args0 about1 = true := code_word (m := ⟨8, 2⟩) (meth := k8m2) (c := k8c2) (by decide +kernel) rfl rfl rfl (by decide +kernel)
set_option maxRecDepth 65536 in
theorem w_c36 : (Jvm.Cond.code ({ cls := "java/lang/Character", name := "isSurrogate", desc := "(C)Z" } : Jvm.MethodName) jdk_89_method_16_code (1 : Nat) (Option.some Jvm.ClassFile.FieldType.boolean)).before args0 about1 = true := code_word (m := ⟨15, 0⟩) (meth := k15m0) (c := k15c0) (by decide +kernel) rfl rfl rfl (by decide +kernel)
set_option maxRecDepth 65536 in
theorem w_c37 : (Jvm.Cond.code ({ cls := "java/lang/StringLatin1", name := "charAt", desc := "([BI)C" } : Jvm.MethodName) jdk_43_method_2_code (2 : Nat) (Option.some Jvm.ClassFile.FieldType.char)).before args0 about1 = true := code_word (m := ⟨12, 1⟩) (meth := k12m1) (c := k12c1) (by decide +kernel) rfl rfl rfl (by decide +kernel)
def codes1 : List Jvm.Cond := [Jvm.Cond.code x code maxLocals ret, Jvm.Cond.code ({ cls := "com/example/tuned_odds/tunedodds/retrieval/CodePointOrderComparePinLaw", name := "cp", desc := "(I)I" } : Jvm.MethodName) method_3_code (2 : Nat) (Option.some Jvm.ClassFile.FieldType.int), Jvm.Cond.code ({ cls := "com/example/tuned_odds/tunedodds/retrieval/CodePointOrderComparePinLaw", name := "enc", desc := "(III)Ljava/lang/String;" } : Jvm.MethodName) method_8_code (5 : Nat) (Option.some (Jvm.ClassFile.FieldType.object "java/lang/String")), Jvm.Cond.code ({ cls := "java/lang/String", name := "<init>", desc := "([C)V" } : Jvm.MethodName) jdk_42_method_3_code (2 : Nat) (Option.none : Option Jvm.ClassFile.FieldType), Jvm.Cond.code ({ cls := "java/lang/String", name := "<init>", desc := "([CIILjava/lang/Void;)V" } : Jvm.MethodName) jdk_42_method_149_code (6 : Nat) (Option.none : Option Jvm.ClassFile.FieldType), Jvm.Cond.code ({ cls := "java/lang/Object", name := "<init>", desc := "()V" } : Jvm.MethodName) object_method_1_code (1 : Nat) (Option.none : Option Jvm.ClassFile.FieldType), Jvm.Cond.code ({ cls := "com/example/tuned_odds/tunedodds/retrieval/CodePointOrderComparePinLaw", name := "sgn", desc := "(I)I" } : Jvm.MethodName) method_4_code (1 : Nat) (Option.some Jvm.ClassFile.FieldType.int), Jvm.Cond.code ({ cls := "com/example/tuned_odds/tunedodds/retrieval/CodePointOrder", name := "compare", desc := "(Ljava/lang/String;Ljava/lang/String;)I" } : Jvm.MethodName) prog_42_method_2_code (6 : Nat) (Option.some Jvm.ClassFile.FieldType.int), Jvm.Cond.code ({ cls := "java/lang/String", name := "length", desc := "()I" } : Jvm.MethodName) jdk_42_method_54_code (1 : Nat) (Option.some Jvm.ClassFile.FieldType.int), Jvm.Cond.code ({ cls := "java/lang/String", name := "coder", desc := "()B" } : Jvm.MethodName) jdk_42_method_152_code (1 : Nat) (Option.some Jvm.ClassFile.FieldType.byte), Jvm.Cond.code ({ cls := "java/lang/Math", name := "min", desc := "(II)I" } : Jvm.MethodName) jdk_29_method_69_code (2 : Nat) (Option.some Jvm.ClassFile.FieldType.int), Jvm.Cond.code ({ cls := "java/lang/Integer", name := "compare", desc := "(II)I" } : Jvm.MethodName) jdk_33_method_40_code (2 : Nat) (Option.some Jvm.ClassFile.FieldType.int), Jvm.Cond.code ({ cls := "com/example/tuned_odds/tunedodds/retrieval/CodePointOrderComparePinLaw", name := "one", desc := "(I)Ljava/lang/String;" } : Jvm.MethodName) method_7_code (1 : Nat) (Option.some (Jvm.ClassFile.FieldType.object "java/lang/String")), Jvm.Cond.code ({ cls := "java/lang/String", name := "valueOf", desc := "(C)Ljava/lang/String;" } : Jvm.MethodName) jdk_42_method_139_code (1 : Nat) (Option.some (Jvm.ClassFile.FieldType.object "java/lang/String")), Jvm.Cond.code ({ cls := "java/lang/StringLatin1", name := "canEncode", desc := "(C)Z" } : Jvm.MethodName) jdk_43_method_3_code (1 : Nat) (Option.some Jvm.ClassFile.FieldType.boolean), Jvm.Cond.code ({ cls := "java/lang/StringLatin1", name := "toBytes", desc := "(C)[B" } : Jvm.MethodName) jdk_43_method_46_code (1 : Nat) (Option.some (Jvm.ClassFile.FieldType.array Jvm.ClassFile.FieldType.byte)), Jvm.Cond.code ({ cls := "java/lang/String", name := "<init>", desc := "([BB)V" } : Jvm.MethodName) jdk_42_method_151_code (3 : Nat) (Option.none : Option Jvm.ClassFile.FieldType), Jvm.Cond.code ({ cls := "java/lang/StringUTF16", name := "compress", desc := "([CII)[B" } : Jvm.MethodName) jdk_52_method_16_code (6 : Nat) (Option.some (Jvm.ClassFile.FieldType.array Jvm.ClassFile.FieldType.byte)), Jvm.Cond.code ({ cls := "java/lang/StringUTF16", name := "compress", desc := "([CI[BII)I" } : Jvm.MethodName) jdk_52_method_21_code (7 : Nat) (Option.some Jvm.ClassFile.FieldType.int), Jvm.Cond.code ({ cls := "java/lang/StringUTF16", name := "coderFromArrayLen", desc := "([BI)B" } : Jvm.MethodName) jdk_52_method_15_code (2 : Nat) (Option.some Jvm.ClassFile.FieldType.byte), Jvm.Cond.code ({ cls := "com/example/tuned_odds/tunedodds/retrieval/CodePointOrderComparePinLaw", name := "hi", desc := "(I)C" } : Jvm.MethodName) method_5_code (1 : Nat) (Option.some Jvm.ClassFile.FieldType.char), Jvm.Cond.code ({ cls := "com/example/tuned_odds/tunedodds/retrieval/CodePointOrderComparePinLaw", name := "lo", desc := "(I)C" } : Jvm.MethodName) method_6_code (1 : Nat) (Option.some Jvm.ClassFile.FieldType.char), Jvm.Cond.code ({ cls := "java/lang/StringUTF16", name := "toBytes", desc := "([CII)[B" } : Jvm.MethodName) jdk_52_method_14_code (5 : Nat) (Option.some (Jvm.ClassFile.FieldType.array Jvm.ClassFile.FieldType.byte)), Jvm.Cond.code ({ cls := "java/lang/StringUTF16", name := "newBytesFor", desc := "(I)[B" } : Jvm.MethodName) jdk_52_method_2_code (1 : Nat) (Option.some (Jvm.ClassFile.FieldType.array Jvm.ClassFile.FieldType.byte)), Jvm.Cond.code ({ cls := "java/lang/StringUTF16", name := "newBytesLength", desc := "(I)I" } : Jvm.MethodName) jdk_52_method_3_code (1 : Nat) (Option.some Jvm.ClassFile.FieldType.int), Jvm.Cond.code ({ cls := "java/lang/StringUTF16", name := "putChar", desc := "([BII)V" } : Jvm.MethodName) jdk_52_method_4_code (3 : Nat) (Option.none : Option Jvm.ClassFile.FieldType), Jvm.Cond.code ({ cls := "java/lang/StringUTF16", name := "getChar", desc := "([BI)C" } : Jvm.MethodName) jdk_52_method_5_code (2 : Nat) (Option.some Jvm.ClassFile.FieldType.char), Jvm.Cond.code ({ cls := "java/lang/String", name := "charAt", desc := "(I)C" } : Jvm.MethodName) jdk_42_method_56_code (2 : Nat) (Option.some Jvm.ClassFile.FieldType.char), Jvm.Cond.code ({ cls := "java/lang/String", name := "isLatin1", desc := "()Z" } : Jvm.MethodName) jdk_42_method_154_code (1 : Nat) (Option.some Jvm.ClassFile.FieldType.boolean), Jvm.Cond.code ({ cls := "java/lang/StringUTF16", name := "charAt", desc := "([BI)C" } : Jvm.MethodName) jdk_52_method_83_code (2 : Nat) (Option.some Jvm.ClassFile.FieldType.char), Jvm.Cond.code ({ cls := "java/lang/StringUTF16", name := "checkIndex", desc := "(I[B)V" } : Jvm.MethodName) jdk_52_method_91_code (2 : Nat) (Option.none : Option Jvm.ClassFile.FieldType), Jvm.Cond.code ({ cls := "java/lang/StringUTF16", name := "length", desc := "([B)I" } : Jvm.MethodName) jdk_52_method_6_code (1 : Nat) (Option.some Jvm.ClassFile.FieldType.int), Jvm.Cond.code ({ cls := "java/lang/String", name := "checkIndex", desc := "(II)V" } : Jvm.MethodName) jdk_42_method_155_code (2 : Nat) (Option.none : Option Jvm.ClassFile.FieldType), Jvm.Cond.code ({ cls := "jdk/internal/util/Preconditions", name := "checkIndex", desc := "(IILjava/util/function/BiFunction;)I" } : Jvm.MethodName) jdk_41_method_11_code (3 : Nat) (Option.some Jvm.ClassFile.FieldType.int), Jvm.Cond.code ({ cls := "java/lang/StringUTF16", name := "toBytes", desc := "(C)[B" } : Jvm.MethodName) jdk_52_method_24_code (2 : Nat) (Option.some (Jvm.ClassFile.FieldType.array Jvm.ClassFile.FieldType.byte)), Jvm.Cond.code ({ cls := "com/example/tuned_odds/tunedodds/retrieval/CodePointOrder", name := "rank", desc := "(C)I" } : Jvm.MethodName) prog_42_method_3_code (2 : Nat) (Option.some Jvm.ClassFile.FieldType.int), Jvm.Cond.code ({ cls := "java/lang/Character", name := "isSurrogate", desc := "(C)Z" } : Jvm.MethodName) jdk_89_method_16_code (1 : Nat) (Option.some Jvm.ClassFile.FieldType.boolean), Jvm.Cond.code ({ cls := "java/lang/StringLatin1", name := "charAt", desc := "([BI)C" } : Jvm.MethodName) jdk_43_method_2_code (2 : Nat) (Option.some Jvm.ClassFile.FieldType.char)]
set_option maxRecDepth 65536 in
theorem codes_eq : words1.filter isCode = codes1 := rfl
theorem w_codes : ∀ c ∈ words1.filter isCode, c.before args0 about1 = true := by
  rw [codes_eq]
  intro c hc
  simp only [codes1, List.mem_cons, List.not_mem_nil, or_false] at hc
  rcases hc with rfl | rfl | rfl | rfl | rfl | rfl | rfl | rfl | rfl | rfl | rfl | rfl | rfl | rfl | rfl | rfl | rfl | rfl | rfl | rfl | rfl | rfl | rfl | rfl | rfl | rfl | rfl | rfl | rfl | rfl | rfl | rfl | rfl | rfl | rfl | rfl | rfl | rfl
  · exact w_c0
  · exact w_c1
  · exact w_c2
  · exact w_c3
  · exact w_c4
  · exact w_c5
  · exact w_c6
  · exact w_c7
  · exact w_c8
  · exact w_c9
  · exact w_c10
  · exact w_c11
  · exact w_c12
  · exact w_c13
  · exact w_c14
  · exact w_c15
  · exact w_c16
  · exact w_c17
  · exact w_c18
  · exact w_c19
  · exact w_c20
  · exact w_c21
  · exact w_c22
  · exact w_c23
  · exact w_c24
  · exact w_c25
  · exact w_c26
  · exact w_c27
  · exact w_c28
  · exact w_c29
  · exact w_c30
  · exact w_c31
  · exact w_c32
  · exact w_c33
  · exact w_c34
  · exact w_c35
  · exact w_c36
  · exact w_c37
set_option maxRecDepth 65536 in
theorem w_t1 : (words1.take 24).all (fun c => isCode c || c.before args0 about1) = true := by decide +kernel
set_option maxRecDepth 65536 in
theorem w_t2 : ((words1.drop 24).take 24).all (fun c => isCode c || c.before args0 about1) = true := by decide +kernel
set_option maxRecDepth 65536 in
theorem w_t3 : (((words1.drop 24).drop 24).take 24).all (fun c => isCode c || c.before args0 about1) = true := by decide +kernel
set_option maxRecDepth 65536 in
theorem w_t4 : ((((words1.drop 24).drop 24).drop 24).take 24).all (fun c => isCode c || c.before args0 about1) = true := by decide +kernel
set_option maxRecDepth 65536 in
theorem w_t5 : (((((words1.drop 24).drop 24).drop 24).drop 24).take 24).all (fun c => isCode c || c.before args0 about1) = true := by decide +kernel
set_option maxRecDepth 65536 in
theorem w_t6 : ((((((words1.drop 24).drop 24).drop 24).drop 24).drop 24).take 24).all (fun c => isCode c || c.before args0 about1) = true := by decide +kernel
set_option maxRecDepth 65536 in
theorem w_t7 : ((((((words1.drop 24).drop 24).drop 24).drop 24).drop 24).drop 24).all (fun c => isCode c || c.before args0 about1) = true := by decide +kernel
theorem w_tables : (allAtoms (Jvm.Cond.code x code maxLocals ret :: tables_1)).before args0 about1 = true := by
  rw [allAtoms_all]
  show words1.all (fun c => c.before args0 about1) = true
  refine all_split ?_ w_codes
  rw [← List.take_append_drop 24 words1, List.all_append, w_t1, ← List.take_append_drop 24 (words1.drop 24), List.all_append, w_t2, ← List.take_append_drop 24 ((words1.drop 24).drop 24), List.all_append, w_t3, ← List.take_append_drop 24 (((words1.drop 24).drop 24).drop 24), List.all_append, w_t4, ← List.take_append_drop 24 ((((words1.drop 24).drop 24).drop 24).drop 24), List.all_append, w_t5, ← List.take_append_drop 24 (((((words1.drop 24).drop 24).drop 24).drop 24).drop 24), List.all_append, w_t6, w_t7]
  rfl
set_option maxRecDepth 65536 in
theorem w_rest : rest_1_c.before args0 about1 = true := by decide +kernel
set_option maxRecDepth 65536 in
theorem w_case : (Jvm.Cond.and given_1 narrow_1).before args0 about1 = true := by decide +kernel
set_option maxRecDepth 65536 in
theorem w_consts : constsHeld consts_1 about1 := Jvm.Lit.constsHeldB_iff.mp (by decide +kernel)
theorem w_applies : (headSpec (Jvm.Cond.code x code maxLocals ret :: tables_1) room_1).applies x e0.platform about1 = true :=
  (Spec.applies_iff w_frames).mpr ⟨w_running, w_runnable, w_alone, w_named, w_hears, w_ripe, w_room, w_tables⟩
theorem atStart : AtStart classFile x code maxLocals ret World_1 tables_1 room_1 Calls_1 rest_1 Pre_1 launch0 p0 e0 about1 theMethod args0 below0 :=
  ⟨lists_1, trivial, launch0.admits_env _ _ _, launch0.least_env, fairChoices_fair.cas, fairChoices_fair.clock, w_frames, w_args, w_heap, w_applies, ⟨w_consts, trivial⟩, w_rest, w_case⟩
end start1
theorem witness_1 : WitnessClaimed_1 := ⟨start1.p0, start1.e0, start1.about1, start1.theMethod, start1.args0, start1.below0, start1.atStart⟩
end Jvm.Pilot.@@N@@
