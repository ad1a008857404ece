import JvmDerived
import JvmDerived.Pilot.@@N@@Statement
import JvmDerived.Pilot.@@N@@Code
set_option linter.unusedVariables false
set_option linter.unusedSimpArgs false
namespace Jvm.OwnWalk
open Sem ClassFile Op Lib Jvm.Stand Jvm.Free Jvm.LawKit Jvm.RoadKit
/-- from t the run comes to an end of which P holds -/
def Win (tb : Tables) (e : Env) (below : List Frame) (P : State → Outcome → Prop) (t : State) : Prop :=
  ∃ s₂ o, Steps tb e below t s₂ ∧ s₂.status = .running ∧ Ended s₂ below o ∧ P s₂ o
theorem Win.go {tb : Tables} {e : Env} {below : List Frame} {P : State → Outcome → Prop} {t t' : State} (st : ∀ z, Steps tb e below t' z → Steps tb e below t z) (w : Win tb e below P t') : Win tb e below P t := by
  obtain ⟨s2, o, h, r⟩ := w; exact ⟨s2, o, st _ h, r⟩
theorem Win.come {tb : Tables} {e : Env} {below : List Frame} {P : State → Outcome → Prop} {t t' : State} (st : Steps tb e below t t') (w : Win tb e below P t') : Win tb e below P t := by
  obtain ⟨s2, o, h, r⟩ := w; exact ⟨s2, o, st.trans h, r⟩
/-- the body has returned v with the heap h, L written -/
def PostQ (s : State) (Q : Option Value → Heap → List Loc → Prop) (C S : Nat) (u : State) (o : Outcome) : Prop := ∃ v L, o = .returned v ∧ Q v u.heap L ∧ FrameEnd s o u L C S
section Ret
variable {p : Program} {l : Launch} {e : Env} {R : Room} {s : State} {m : MethodId} {args : Array Value} {below : List Frame} {meth : Method} {c : Code} {T : State} {locs : List Loc} {cells slots : Nat} {h : Heap} {Q : Option Value → Heap → List Loc → Prop} {C S : Nat}
theorem retI' (X : Stand p l e R s m args below meth c T locs cells slots) (hx : p.tables.exec = Jvm.exec) {pc : Nat} {Ls : Array Slot} {z : Int32} {rest : List Value} (hret : meth.sig.returnType = some .int) (hd : decode c.code pc = .ok (.ireturn, 1)) {fs : List Frame}
    (hl : ∀ (f : JFrame) (acts : List Action), f.method = m → f.locked = none → f.entered = [] → (doReturn e (T.setTop f) acts (some (.int z))).1 = T.setFrames fs) : Steps p.tables e below (T.setTop (mkF m pc Ls (.int z :: rest))) (T.setFrames fs) := by
  have hm' : T.vm.method? m = some meth := X.method'
  have hn : narrow .int (.int z) = .int z := rfl
  show Steps p.tables e below (T.setTop { method := m, pc := pc, locals := Ls, stack := _ :: rest, locked := none }) _
  jvm_step X.here [X.here.top, hx, hd, hm', hret, hn]
  first | (intro acts; rw [hl _ acts rfl rfl rfl]) | rw [hl _ _ rfl rfl rfl]
  exact Steps.refl _
theorem retA' (X : Stand p l e R s m args below meth c T locs cells slots) (hx : p.tables.exec = Jvm.exec) {pc : Nat} {Ls : Array Slot} {w : Value} {t : FieldType} (hret : meth.sig.returnType = some t) (ht : t.isReference = true) (hv : w.isRef = true) (hd : decode c.code pc = .ok (.areturn, 1)) {fs : List Frame}
    (hl : ∀ (f : JFrame) (acts : List Action), f.method = m → f.locked = none → f.entered = [] → (doReturn e (T.setTop f) acts (some w)).1 = T.setFrames fs) : Steps p.tables e below (T.setTop (mkF m pc Ls [w])) (T.setFrames fs) := by
  have hm' : T.vm.method? m = some meth := X.method'
  show Steps p.tables e below (T.setTop { method := m, pc := pc, locals := Ls, stack := [w], locked := none }) _
  jvm_step X.here [X.here.top, hx, hd, hm', hret, hv, ht]
  first | (intro acts; rw [hl _ acts rfl rfl rfl]) | rw [hl _ _ rfl rfl rfl]
  exact Steps.refl _
theorem winI (X : Stand p l e R s m args below meth c T locs cells slots) (hx : p.tables.exec = Jvm.exec) (hlk : meth.locks = false) (eT : T.heap = h) {pc : Nat} {Ls : Array Slot} {z : Int32} {rest : List Value} (hret : meth.sig.returnType = some .int) (hd : decode c.code pc = .ok (.ireturn, 1))
    (hc : cells ≤ C) (hs : slots ≤ S) (hQ : Q (some (.int z)) h locs) : Win p.tables e below (PostQ s Q C S) (T.setTop (mkF m pc Ls (.int z :: rest))) := by
  subst eT
  obtain ⟨fs, hr, hrun, hended, hW, hsame⟩ := X.leave (v := some (.int z)) (fun h => by rw [hret] at h; cases h) hlk
  exact ⟨_, _, retI' X hx hret hd hr, hrun, hended, _, _, rfl, hQ, ⟨_, rfl⟩, hW, hsame.mono hc hs⟩
theorem winN (X : Stand p l e R s m args below meth c T locs cells slots) (hx : p.tables.exec = Jvm.exec) (hlk : meth.locks = false) (eT : T.heap = h) {pc : Nat} {Ls : Array Slot} {z z' : Int32} {rest : List Value} {t : FieldType} (hret : meth.sig.returnType = some t) (ht : t = .boolean ∨ t = .byte ∨ t = .char ∨ t = .short) (hd : decode c.code pc = .ok (.ireturn, 1))
    (hc : cells ≤ C) (hs : slots ≤ S) (hz : nar t z = z') (hQ : Q (some (.int z')) h locs) : Win p.tables e below (PostQ s Q C S) (T.setTop (mkF m pc Ls (.int z :: rest))) := by
  subst eT hz
  obtain ⟨fs, hr, hrun, hended, hW, hsame⟩ := X.leave (v := some (.int (nar t z))) (fun h => by rw [hret] at h; cases h) hlk
  exact ⟨_, _, retN X hx hret ht hd hr, hrun, hended, _, _, rfl, hQ, ⟨_, rfl⟩, hW, hsame.mono hc hs⟩
theorem winL (X : Stand p l e R s m args below meth c T locs cells slots) (hx : p.tables.exec = Jvm.exec) (hlk : meth.locks = false) (eT : T.heap = h) {pc : Nat} {Ls : Array Slot} {z : Int64} (hret : meth.sig.returnType = some .long) (hd : decode c.code pc = .ok (.lreturn, 1))
    (hc : cells ≤ C) (hs : slots ≤ S) (hQ : Q (some (.long z)) h locs) : Win p.tables e below (PostQ s Q C S) (T.setTop (mkF m pc Ls [.long z])) := by
  subst eT
  obtain ⟨fs, hr, hrun, hended, hW, hsame⟩ := X.leave (v := some (.long z)) (fun h => by rw [hret] at h; cases h) hlk
  exact ⟨_, _, X.lreturnOut hx hret hd hr, hrun, hended, _, _, rfl, hQ, ⟨_, rfl⟩, hW, hsame.mono hc hs⟩
theorem winA (X : Stand p l e R s m args below meth c T locs cells slots) (hx : p.tables.exec = Jvm.exec) (hlk : meth.locks = false) (eT : T.heap = h) {pc : Nat} {Ls : Array Slot} {w : Value} {t : FieldType} (hret : meth.sig.returnType = some t) (ht : t.isReference = true) (hv : w.isRef = true) (hd : decode c.code pc = .ok (.areturn, 1))
    (hc : cells ≤ C) (hs : slots ≤ S) (hQ : Q (some w) h locs) : Win p.tables e below (PostQ s Q C S) (T.setTop (mkF m pc Ls [w])) := by
  subst eT
  obtain ⟨fs, hr, hrun, hended, hW, hsame⟩ := X.leave (v := some w) (fun h => by rw [hret] at h; cases h) hlk
  exact ⟨_, _, retA' X hx hret ht hv hd hr, hrun, hended, _, _, rfl, hQ, ⟨_, rfl⟩, hW, hsame.mono hc hs⟩
theorem winV (X : Stand p l e R s m args below meth c T locs cells slots) (hx : p.tables.exec = Jvm.exec) (hlk : meth.locks = false) (eT : T.heap = h) {pc : Nat} {Ls : Array Slot} (hret : meth.sig.returnType = none) (hd : decode c.code pc = .ok (.return_, 1))
    (hc : cells ≤ C) (hs : slots ≤ S) (hQ : Q none h locs) : Win p.tables e below (PostQ s Q C S) (T.setTop (mkF m pc Ls [])) := by
  subst eT
  obtain ⟨fs, hr, hrun, hended, hW, hsame⟩ := X.leave (v := none) (fun _ => rfl) hlk
  exact ⟨_, _, X.returnOut hx hret hd hr, hrun, hended, _, _, rfl, hQ, ⟨_, rfl⟩, hW, hsame.mono hc hs⟩
def PostQW (s : State) (Q : Option Value → Heap → List Loc → Prop) (C S : Nat) (u : State) (o : Outcome) : Prop := ∃ v L, o = .returned v ∧ Q v u.heap L ∧ ReturnedEndW s o u L C S
theorem winNW {vm0 : Vm} {k0 : Nat} (hS : s.Since vm0 k0) (hk : k0 ≤ h.size) (X : Stand p l e R (s.setVm vm0) m args below meth c T locs cells slots) (hx : p.tables.exec = Jvm.exec) (hlk : meth.locks = false) (eT : T.heap = h) {pc : Nat} {Ls : Array Slot} {z z' : Int32} {rest : List Value} {t : FieldType} (hret : meth.sig.returnType = some t) (ht : t = .boolean ∨ t = .byte ∨ t = .char ∨ t = .short) (hd : decode c.code pc = .ok (.ireturn, 1))
    (hc : cells ≤ C) (hs : slots ≤ S) (hz : nar t z = z') (hQ : Q (some (.int z')) h locs) : Win p.tables e below (PostQW s Q C S) (T.setTop (mkF m pc Ls (.int z :: rest))) := by
  subst eT hz
  obtain ⟨fs, hr, hrun, hended, h1, h2, h3, h4⟩ := X.leaveW hS hk (v := some (.int (nar t z))) (fun h => by rw [hret] at h; cases h) hlk
  exact ⟨_, _, retN X hx hret ht hd hr, hrun, hended, _, _, rfl, hQ, ⟨_, rfl⟩, h2, h3, h4.mono hc hs⟩
end Ret
section Steps
variable {tb : Tables} [Ours tb] {e : Env} {below : List Frame} {P : State → Outcome → Prop} {T : State} {m : MethodId} {c : Code} {pc pc' : Nat} {ls : Array Slot} {st : List Value}
theorem s_iloadN {k : Fin 4} {v : Int32} (h : At T m c below) (hx : tb.exec = Jvm.exec) (hd : decode c.code pc = .ok (.iload_n k, 1)) (hp : pc + 1 = pc') (hl : ls[k.val]? = some (.val (.int v))) (w : Win tb e below P (T.setTop (mkF m pc' ls (.int v :: st)))) : Win tb e below P (T.setTop (mkF m pc ls st)) := by
  subst hp; exact Win.go (fun _ k => XS.iloadN h hx rfl hd hl k) w
theorem s_iload {k : Nat} {v : Int32} (h : At T m c below) (hx : tb.exec = Jvm.exec) (hd : decode c.code pc = .ok (.iload k, 2)) (hp : pc + 2 = pc') (hl : ls[k]? = some (.val (.int v))) (w : Win tb e below P (T.setTop (mkF m pc' ls (.int v :: st)))) : Win tb e below P (T.setTop (mkF m pc ls st)) := by
  subst hp; exact Win.go (fun _ k => XS.iload h hx rfl hd hl k) w
theorem s_lloadN {k : Fin 4} {v : Int64} (h : At T m c below) (hx : tb.exec = Jvm.exec) (hd : decode c.code pc = .ok (.lload_n k, 1)) (hp : pc + 1 = pc') (hl : ls[k.val]? = some (.val (.long v))) (w : Win tb e below P (T.setTop (mkF m pc' ls (.long v :: st)))) : Win tb e below P (T.setTop (mkF m pc ls st)) := by
  subst hp; exact Win.go (fun _ k => XS.lloadN h hx rfl hd hl k) w
theorem s_lload {k : Nat} {v : Int64} (h : At T m c below) (hx : tb.exec = Jvm.exec) (hd : decode c.code pc = .ok (.lload k, 2)) (hp : pc + 2 = pc') (hl : ls[k]? = some (.val (.long v))) (w : Win tb e below P (T.setTop (mkF m pc' ls (.long v :: st)))) : Win tb e below P (T.setTop (mkF m pc ls st)) := by
  subst hp; exact Win.go (fun _ k => XS.lload h hx rfl hd hl k) w
theorem s_aloadN {k : Fin 4} {v : Value} (h : At T m c below) (hx : tb.exec = Jvm.exec) (hd : decode c.code pc = .ok (.aload_n k, 1)) (hp : pc + 1 = pc') (hl : ls[k.val]? = some (.val v)) (hv : v.isRef = true) (w : Win tb e below P (T.setTop (mkF m pc' ls (v :: st)))) : Win tb e below P (T.setTop (mkF m pc ls st)) := by
  subst hp; exact Win.go (fun _ k => XS.aloadN h hx rfl hd hl hv k) w
theorem s_aload {k : Nat} {v : Value} (h : At T m c below) (hx : tb.exec = Jvm.exec) (hd : decode c.code pc = .ok (.aload k, 2)) (hp : pc + 2 = pc') (hl : ls[k]? = some (.val v)) (hv : v.isRef = true) (w : Win tb e below P (T.setTop (mkF m pc' ls (v :: st)))) : Win tb e below P (T.setTop (mkF m pc ls st)) := by
  subst hp; exact Win.go (fun _ k => XS.aload h hx rfl hd hl hv k) w
theorem s_iadd {x y : Int32} (h : At T m c below) (hx : tb.exec = Jvm.exec) (hd : decode c.code pc = .ok (.iadd, 1)) (hp : pc + 1 = pc') (w : Win tb e below P (T.setTop (mkF m pc' ls (.int (x + y) :: st)))) : Win tb e below P (T.setTop (mkF m pc ls (.int y :: .int x :: st))) := by
  subst hp; exact Win.go (fun _ k => XS.iadd h hx rfl hd rfl k) w
theorem s_isub {x y : Int32} (h : At T m c below) (hx : tb.exec = Jvm.exec) (hd : decode c.code pc = .ok (.isub, 1)) (hp : pc + 1 = pc') (w : Win tb e below P (T.setTop (mkF m pc' ls (.int (x - y) :: st)))) : Win tb e below P (T.setTop (mkF m pc ls (.int y :: .int x :: st))) := by
  subst hp; exact Win.go (fun _ k => XS.isub h hx rfl hd rfl k) w
theorem s_imul {x y : Int32} (h : At T m c below) (hx : tb.exec = Jvm.exec) (hd : decode c.code pc = .ok (.imul, 1)) (hp : pc + 1 = pc') (w : Win tb e below P (T.setTop (mkF m pc' ls (.int (x * y) :: st)))) : Win tb e below P (T.setTop (mkF m pc ls (.int y :: .int x :: st))) := by
  subst hp; exact Win.go (fun _ k => XS.imul h hx rfl hd rfl k) w
theorem s_iand {x y : Int32} (h : At T m c below) (hx : tb.exec = Jvm.exec) (hd : decode c.code pc = .ok (.iand, 1)) (hp : pc + 1 = pc') (w : Win tb e below P (T.setTop (mkF m pc' ls (.int (x &&& y) :: st)))) : Win tb e below P (T.setTop (mkF m pc ls (.int y :: .int x :: st))) := by
  subst hp; exact Win.go (fun _ k => XS.iand h hx rfl hd rfl k) w
theorem s_ior {x y : Int32} (h : At T m c below) (hx : tb.exec = Jvm.exec) (hd : decode c.code pc = .ok (.ior, 1)) (hp : pc + 1 = pc') (w : Win tb e below P (T.setTop (mkF m pc' ls (.int (x ||| y) :: st)))) : Win tb e below P (T.setTop (mkF m pc ls (.int y :: .int x :: st))) := by
  subst hp; exact Win.go (fun _ k => XS.ior h hx rfl hd rfl k) w
theorem s_ixor {x y : Int32} (h : At T m c below) (hx : tb.exec = Jvm.exec) (hd : decode c.code pc = .ok (.ixor, 1)) (hp : pc + 1 = pc') (w : Win tb e below P (T.setTop (mkF m pc' ls (.int (x ^^^ y) :: st)))) : Win tb e below P (T.setTop (mkF m pc ls (.int y :: .int x :: st))) := by
  subst hp; exact Win.go (fun _ k => XS.ixor h hx rfl hd rfl k) w
theorem s_ladd {x y : Int64} (h : At T m c below) (hx : tb.exec = Jvm.exec) (hd : decode c.code pc = .ok (.ladd, 1)) (hp : pc + 1 = pc') (w : Win tb e below P (T.setTop (mkF m pc' ls (.long (x + y) :: st)))) : Win tb e below P (T.setTop (mkF m pc ls (.long y :: .long x :: st))) := by
  subst hp; exact Win.go (fun _ k => XS.ladd h hx rfl hd rfl k) w
theorem s_lsub {x y : Int64} (h : At T m c below) (hx : tb.exec = Jvm.exec) (hd : decode c.code pc = .ok (.lsub, 1)) (hp : pc + 1 = pc') (w : Win tb e below P (T.setTop (mkF m pc' ls (.long (x - y) :: st)))) : Win tb e below P (T.setTop (mkF m pc ls (.long y :: .long x :: st))) := by
  subst hp; exact Win.go (fun _ k => XS.lsub h hx rfl hd rfl k) w
theorem s_lmul {x y : Int64} (h : At T m c below) (hx : tb.exec = Jvm.exec) (hd : decode c.code pc = .ok (.lmul, 1)) (hp : pc + 1 = pc') (w : Win tb e below P (T.setTop (mkF m pc' ls (.long (x * y) :: st)))) : Win tb e below P (T.setTop (mkF m pc ls (.long y :: .long x :: st))) := by
  subst hp; exact Win.go (fun _ k => XS.lmul h hx rfl hd rfl k) w
theorem s_land {x y : Int64} (h : At T m c below) (hx : tb.exec = Jvm.exec) (hd : decode c.code pc = .ok (.land, 1)) (hp : pc + 1 = pc') (w : Win tb e below P (T.setTop (mkF m pc' ls (.long (x &&& y) :: st)))) : Win tb e below P (T.setTop (mkF m pc ls (.long y :: .long x :: st))) := by
  subst hp; exact Win.go (fun _ k => XS.land h hx rfl hd rfl k) w
theorem s_lor {x y : Int64} (h : At T m c below) (hx : tb.exec = Jvm.exec) (hd : decode c.code pc = .ok (.lor, 1)) (hp : pc + 1 = pc') (w : Win tb e below P (T.setTop (mkF m pc' ls (.long (x ||| y) :: st)))) : Win tb e below P (T.setTop (mkF m pc ls (.long y :: .long x :: st))) := by
  subst hp; exact Win.go (fun _ k => XS.lor h hx rfl hd rfl k) w
theorem s_lxor {x y : Int64} (h : At T m c below) (hx : tb.exec = Jvm.exec) (hd : decode c.code pc = .ok (.lxor, 1)) (hp : pc + 1 = pc') (w : Win tb e below P (T.setTop (mkF m pc' ls (.long (x ^^^ y) :: st)))) : Win tb e below P (T.setTop (mkF m pc ls (.long y :: .long x :: st))) := by
  subst hp; exact Win.go (fun _ k => XS.lxor h hx rfl hd rfl k) w
theorem s_iconst {i : Int} {z : Int32} (h : At T m c below) (hx : tb.exec = Jvm.exec) (hd : decode c.code pc = .ok (.iconst i, 1)) (hp : pc + 1 = pc') (hz : Int32.ofInt i = z) (w : Win tb e below P (T.setTop (mkF m pc' ls (.int z :: st)))) : Win tb e below P (T.setTop (mkF m pc ls st)) := by
  subst hp hz; exact Win.go (fun _ k => XS.iconst h hx rfl hd k) w
theorem s_bipush {i : Int} {z : Int32} (h : At T m c below) (hx : tb.exec = Jvm.exec) (hd : decode c.code pc = .ok (.bipush i, 2)) (hp : pc + 2 = pc') (hz : (Int8.ofInt i).toInt32 = z) (w : Win tb e below P (T.setTop (mkF m pc' ls (.int z :: st)))) : Win tb e below P (T.setTop (mkF m pc ls st)) := by
  subst hp hz; exact Win.go (fun _ k => XS.bipush h hx rfl hd k) w
theorem s_sipush {i : Int} {z : Int32} (h : At T m c below) (hx : tb.exec = Jvm.exec) (hd : decode c.code pc = .ok (.sipush i, 3)) (hp : pc + 3 = pc') (hz : (Int16.ofInt i).toInt32 = z) (w : Win tb e below P (T.setTop (mkF m pc' ls (.int z :: st)))) : Win tb e below P (T.setTop (mkF m pc ls st)) := by
  subst hp hz; exact Win.go (fun _ k => XS.sipush h hx rfl hd k) w
theorem s_lconst {i : Fin 2} {z : Int64} (h : At T m c below) (hx : tb.exec = Jvm.exec) (hd : decode c.code pc = .ok (.lconst i, 1)) (hp : pc + 1 = pc') (hz : Int64.ofNat i = z) (w : Win tb e below P (T.setTop (mkF m pc' ls (.long z :: st)))) : Win tb e below P (T.setTop (mkF m pc ls st)) := by
  subst hp hz; exact Win.go (fun _ k => XS.lconst h hx rfl hd k) w
theorem s_goto {o : Int} (h : At T m c below) (hx : tb.exec = Jvm.exec) (hd : decode c.code pc = .ok (.goto o, 3)) (ho : 0 ≤ (pc : Int) + o) (hp : ((pc : Int) + o).toNat = pc') (w : Win tb e below P (T.setTop (mkF m pc' ls st))) : Win tb e below P (T.setTop (mkF m pc ls st)) := by
  exact Win.go (fun _ k => XS.goto h hx rfl rfl hd ho hp k) w
theorem s_icmpYes {cd : ClassFile.Cond} {o : Int} {x y : Int32} (h : At T m c below) (hx : tb.exec = Jvm.exec) (hd : decode c.code pc = .ok (.if_icmp cd o, 3)) (hc : if_icmp.holds cd x y = true) (ho : 0 ≤ (pc : Int) + o) (hp : ((pc : Int) + o).toNat = pc') (w : Win tb e below P (T.setTop (mkF m pc' ls st))) : Win tb e below P (T.setTop (mkF m pc ls (.int y :: .int x :: st))) := by
  exact Win.go (fun _ k => XS.icmpYes h hx rfl rfl hd rfl hc ho hp k) w
theorem s_icmpNo {cd : ClassFile.Cond} {o : Int} {x y : Int32} (h : At T m c below) (hx : tb.exec = Jvm.exec) (hd : decode c.code pc = .ok (.if_icmp cd o, 3)) (hp : pc + 3 = pc') (hc : if_icmp.holds cd x y = false) (w : Win tb e below P (T.setTop (mkF m pc' ls st))) : Win tb e below P (T.setTop (mkF m pc ls (.int y :: .int x :: st))) := by
  subst hp; exact Win.go (fun _ k => XS.icmpNo h hx rfl hd rfl hc k) w
theorem s_ifYes {cd : ClassFile.Cond} {o : Int} {x : Int32} (h : At T m c below) (hx : tb.exec = Jvm.exec) (hd : decode c.code pc = .ok (.ifCond cd o, 3)) (hc : ifCond.holds cd x = true) (ho : 0 ≤ (pc : Int) + o) (hp : ((pc : Int) + o).toNat = pc') (w : Win tb e below P (T.setTop (mkF m pc' ls st))) : Win tb e below P (T.setTop (mkF m pc ls (.int x :: st))) := by
  exact Win.go (fun _ k => XS.ifYes h hx rfl rfl hd rfl hc ho hp k) w
theorem s_ifNo {cd : ClassFile.Cond} {o : Int} {x : Int32} (h : At T m c below) (hx : tb.exec = Jvm.exec) (hd : decode c.code pc = .ok (.ifCond cd o, 3)) (hp : pc + 3 = pc') (hc : ifCond.holds cd x = false) (w : Win tb e below P (T.setTop (mkF m pc' ls st))) : Win tb e below P (T.setTop (mkF m pc ls (.int x :: st))) := by
  subst hp; exact Win.go (fun _ k => XS.ifNo h hx rfl hd rfl hc k) w
theorem s_lcmp {x y : Int64} (h : At T m c below) (hx : tb.exec = Jvm.exec) (hd : decode c.code pc = .ok (.lcmp, 1)) (hp : pc + 1 = pc') (w : Win tb e below P (T.setTop (mkF m pc' ls (.int (lcmpW x y) :: st)))) : Win tb e below P (T.setTop (mkF m pc ls (.long y :: .long x :: st))) := by
  subst hp; exact Win.go (fun _ k => XS.lcmp h hx rfl hd rfl k) w
theorem s_istore {k : Nat} {x : Int32} {l' : Array Slot} (h : At T m c below) (hx : tb.exec = Jvm.exec) (hd : decode c.code pc = .ok (.istore k, 2)) (hp : pc + 2 = pc') (hl : storeLocals ls k (.int x) = some l') (w : Win tb e below P (T.setTop (mkF m pc' l' st))) : Win tb e below P (T.setTop (mkF m pc ls (.int x :: st))) := by
  subst hp; exact Win.go (fun _ k => XS.istore h hx rfl hd rfl hl k) w
theorem s_istoreN {k : Fin 4} {x : Int32} {l' : Array Slot} (h : At T m c below) (hx : tb.exec = Jvm.exec) (hd : decode c.code pc = .ok (.istore_n k, 1)) (hp : pc + 1 = pc') (hl : storeLocals ls k.val (.int x) = some l') (w : Win tb e below P (T.setTop (mkF m pc' l' st))) : Win tb e below P (T.setTop (mkF m pc ls (.int x :: st))) := by
  subst hp; exact Win.go (fun _ k => XS.istoreN h hx rfl hd rfl hl k) w
theorem s_lstore {k : Nat} {x : Int64} {l' : Array Slot} (h : At T m c below) (hx : tb.exec = Jvm.exec) (hd : decode c.code pc = .ok (.lstore k, 2)) (hp : pc + 2 = pc') (hl : storeLocals ls k (.long x) = some l') (w : Win tb e below P (T.setTop (mkF m pc' l' st))) : Win tb e below P (T.setTop (mkF m pc ls (.long x :: st))) := by
  subst hp; exact Win.go (fun _ k => XS.lstore h hx rfl hd rfl hl k) w
theorem s_lstoreN {k : Fin 4} {x : Int64} {l' : Array Slot} (h : At T m c below) (hx : tb.exec = Jvm.exec) (hd : decode c.code pc = .ok (.lstore_n k, 1)) (hp : pc + 1 = pc') (hl : storeLocals ls k.val (.long x) = some l') (w : Win tb e below P (T.setTop (mkF m pc' l' st))) : Win tb e below P (T.setTop (mkF m pc ls (.long x :: st))) := by
  subst hp; exact Win.go (fun _ k => XS.lstoreN h hx rfl hd rfl hl k) w
theorem s_astore {k : Nat} {x : Value} {l' : Array Slot} (h : At T m c below) (hx : tb.exec = Jvm.exec) (hd : decode c.code pc = .ok (.astore k, 2)) (hp : pc + 2 = pc') (hv : x.isRef = true) (hl : storeLocals ls k x = some l') (w : Win tb e below P (T.setTop (mkF m pc' l' st))) : Win tb e below P (T.setTop (mkF m pc ls (x :: st))) := by
  subst hp; exact Win.go (fun _ k => XS.astore h hx rfl hd rfl hv hl k) w
theorem s_astoreN {k : Fin 4} {x : Value} {l' : Array Slot} (h : At T m c below) (hx : tb.exec = Jvm.exec) (hd : decode c.code pc = .ok (.astore_n k, 1)) (hp : pc + 1 = pc') (hv : x.isRef = true) (hl : storeLocals ls k.val x = some l') (w : Win tb e below P (T.setTop (mkF m pc' l' st))) : Win tb e below P (T.setTop (mkF m pc ls (x :: st))) := by
  subst hp; exact Win.go (fun _ k => XS.astoreN h hx rfl hd rfl hv hl k) w
theorem s_dup {x : Value} (h : At T m c below) (hx : tb.exec = Jvm.exec) (hd : decode c.code pc = .ok (.dup, 1)) (hp : pc + 1 = pc') (hc : x.category = 1) (w : Win tb e below P (T.setTop (mkF m pc' ls (x :: x :: st)))) : Win tb e below P (T.setTop (mkF m pc ls (x :: st))) := by
  subst hp; exact Win.go (fun _ k => XS.dup h hx rfl hd rfl hc k) w
end Steps
/-- an array of ints by its places: place j holds f j -/
def AF (Z : State) (h : Heap) (a : Addr) (ty : FieldType) (n : Nat) (f : Int → Int32) : Prop := ∃ cl : Cell, Arr Z h a cl ty ∧ cl.slots.size = n ∧ ∀ j : Int32, 0 ≤ j.toInt → j.toInt < n → cl.slots[j.toNatClampNeg]? = some (.int (f j.toInt))
section AFs
variable {Z : State} {h h' : Heap} {a b : Addr} {ty : FieldType} {n : Nat} {f : Int → Int32} {ws : List Addr} {sl : Nat} {v : Value}
theorem AF.lt (F : AF Z h a ty n f) : a < h.size := by obtain ⟨c, A, -⟩ := F; exact A.lt
theorem AF.ext (F : AF Z h a ty n f) (E : Ext h h') : AF Z h' a ty n f := by obtain ⟨c, A, r⟩ := F; exact ⟨c, A.ext E, r⟩
theorem AF.other (F : AF Z h b ty n f) (W : Wr h h' a sl v) (q : b ≠ a) : AF Z h' b ty n f := by obtain ⟨c, A, r⟩ := F; exact ⟨c, A.other W q, r⟩
theorem AF.keep (F : AF Z h a ty n f) (K : Keep h h' ws) (q : a ∉ ws) : AF Z h' a ty n f := by obtain ⟨c, A, r⟩ := F; exact ⟨c, ⟨K.2.1 a c A.1 q, A.2⟩, r⟩
theorem AF.inb {c : Cell} {j : Int32} (S : c.slots.size = n) (q : 0 ≤ j.toInt ∧ j.toInt < n) : ¬ (j < 0 ∨ c.slots.size ≤ j.toNatClampNeg) := by
  rw [S, Int32.lt_iff_toInt_lt]; have e0 : (0 : Int32).toInt = 0 := rfl
  simp only [Int32.toNatClampNeg]; omega
def updF (f : Int → Int32) (j : Int) (v : Int32) : Int → Int32 := fun i => if i = j then v else f i
theorem updF_hit (f : Int → Int32) (j : Int) (v : Int32) : updF f j v j = v := if_pos rfl
theorem updF_miss {f : Int → Int32} {i j : Int} {v : Int32} (q : i ≠ j) : updF f j v i = f i := if_neg q
theorem AF.set {cl : Cell} {j v : Int32} (A : Arr Z h a cl ty) (S : cl.slots.size = n) (G : ∀ j : Int32, 0 ≤ j.toInt → j.toInt < n → cl.slots[j.toNatClampNeg]? = some (.int (f j.toInt))) (W : Wr h h' a j.toNatClampNeg (.int v)) (q : 0 ≤ j.toInt ∧ j.toInt < n) : AF Z h' a ty n (updF f j.toInt v) := by
  have e0 : (0 : Int32).toInt = 0 := rfl
  refine ⟨_, A.same W, by rw [sz_set]; exact S, fun k h0 h1 => ?_⟩
  by_cases e : k = j
  · subst e; rw [get_hit (AF.inb S q) rfl, updF_hit]
  · rw [get_miss (by rw [Int32.lt_iff_toInt_lt]; omega) (by rw [Int32.lt_iff_toInt_lt]; omega) e, updF_miss (fun z => e (Int32.toInt_inj.mp z))]; exact G k h0 h1
theorem AF.zero {k : ClassId} {z : Int32} (F : Arv Z h a k ty z [] (.int 0)) (q : z.toNatClampNeg = n) : AF Z h a ty n (fun _ => 0) := by
  obtain ⟨c, A, -, S, -, H, -⟩ := F
  refine ⟨c, A, S.trans q, fun j h0 h1 => ?_⟩
  have e : j.toNatClampNeg = j.toInt.toNat := rfl
  exact H _ (by rw [S, q, e]; omega)
theorem AF.ex {k : ClassId} {z : Int32} {vs : List Value} {dv : Value} (F : Arv Z h a k .byte z vs dv) (q : z.toNatClampNeg = n) : ∃ f, AF Z h a .byte n f := by
  obtain ⟨c, A, -, S, -, H, G⟩ := F
  refine ⟨fun i => match c.slots[i.toNat]? with | some (.int x) => x | _ => 0, c, A, S.trans q, fun j h0 h1 => ?_⟩
  have e : j.toNatClampNeg = j.toInt.toNat := rfl
  have hj : j.toInt.toNat < c.slots.size := by rw [S, q]; omega
  have e1 := H _ hj
  have e2 := G _ hj
  show c.slots[j.toInt.toNat]? = some (.int (match c.slots[j.toInt.toNat]? with | some (.int x) => x | _ => 0))
  cases hv : vs.getD j.toInt.toNat dv <;> rw [hv] at e1 e2 <;> first | (rw [e1]; done) | (exact absurd e2 (by simp [fits]))
/-- a byte array of length z -/
def BA (Z : State) (h : Heap) (a : Addr) (z : Int32) : Prop := ∃ (k : ClassId) (vs : List Value), Arv Z h a k .byte z vs (.int 0)
variable {z : Int32}
theorem BA.lt (F : BA Z h a z) : a < h.size := by obtain ⟨_, _, A⟩ := F; exact A.lt
theorem BA.ext (F : BA Z h a z) (E : Ext h h') : BA Z h' a z := by obtain ⟨k, vs, A⟩ := F; exact ⟨k, vs, A.ext E⟩
theorem BA.other (F : BA Z h b z) (W : Wr h h' a sl v) (q : b ≠ a) : BA Z h' b z := by obtain ⟨k, vs, A⟩ := F; exact ⟨k, vs, A.other W q⟩
theorem BA.keep (F : BA Z h a z) (K : Keep h h' ws) (q : a ∉ ws) : BA Z h' a z := by obtain ⟨k, vs, A⟩ := F; exact ⟨k, vs, A.keep K q⟩
theorem cpBA {p : Program} {l : Launch} {e : Env} {R : Room} {s : State} {m : MethodId} {args : Array Value} {below : List Frame} {meth : Method} {c : Code} {T : State} {locs : List Loc} {cells slots : Nat}
    (X : Stand p l e R s m args below meth c T locs cells slots) (hx : p.tables.exec = Jvm.exec) (hZ : Z.Warmed39 s.vm) {a0 : Array Value} {own : String} {index : Nat} (hown : s.vm.findClass own = some m.cls)
    (w1 : (Cond.methodLink own index Jvm.Stand.acN).before a0 Z = true) (w2 : (Cond.native Jvm.Stand.acN).before a0 Z = true) (w3 : (Cond.static Jvm.Stand.acN).before a0 Z = true) (w4 : (Cond.initialized "java/lang/System").before a0 Z = true) (eT : T.heap = h)
    {z' sp dp nn : Int32} (A : BA Z h a z) (B : BA Z h b z') (h1 : 0 ≤ sp.toInt) (h2 : 0 ≤ dp.toInt) (h3 : 0 ≤ nn.toInt) (h4 : sp.toInt + nn.toInt ≤ z.toInt) (h5 : dp.toInt + nn.toInt ≤ z'.toInt) {n0 : Nat} (N : Fr n0 locs) (ge : n0 ≤ b)
    {g : JFrame} (hg : g.method = m) (hsize : g.locals.size = c.maxLocals) {rest : List Value} (hs : g.stack = .int nn :: .int dp :: .ref b :: .int sp :: .ref a :: rest) (hd : decode c.code g.pc = .ok (.invokestatic index, 3))
    (hf : 1 ≤ R.frames) {W : Nat} (hW : 2 * g.monitorRoom + (rest.map fun v => v.category).sum ≤ W) (hlo : W + (nativeFrameWords "java/lang/System" "arraycopy" 5 + 11) ≤ R.locals) :
    ∃ T' h' L, Stand p l e R s m args below meth c T' L cells slots ∧ T'.heap = h' ∧ Fr n0 L ∧ Keep h h' [b] ∧ BA Z h' b z' ∧
      ∀ target, Steps p.tables e below (T'.setTop { g with pc := g.pc + 3, stack := rest }) target → Steps p.tables e below (T.setTop g) target := by
  have e0 : (0 : Int32).toInt = 0 := rfl
  obtain ⟨k, vs, A⟩ := A
  obtain ⟨k', vd, B⟩ := B
  have B' := B.pad (pad_rep vd (.int 0) z'.toNatClampNeg)
  obtain ⟨T', h', L, X', e', N', K, B2, st⟩ := cpA X hx hZ hown w1 w2 w3 w4 eT A B' (Or.inl ⟨rfl, rfl⟩) (by rw [Int32.lt_iff_toInt_lt]; omega) (by rw [Int32.lt_iff_toInt_lt]; omega) (by rw [Int32.lt_iff_toInt_lt]; omega) (by simp only [Int32.toNatClampNeg]; omega) (by simp only [Int32.toNatClampNeg]; omega) rfl (by simp only [List.length_append, List.length_replicate, Int32.toNatClampNeg]; omega) N ge hg hsize hs hd hf hW hlo
  exact ⟨T', h', L, X', e', N', K, ⟨k', _, B2⟩, st⟩
end AFs
theorem own_selPriv {s : State} {args : Array Value} {y y' : MethodName} (hn : y.cls = y'.cls) (w : (Cond.selects y'.cls y' y').before args s = true) (hpriv : s.PrivateAt y) (hinst : (Cond.instanceMethod y).before args s = true) (hy : y.cls ≠ "java/lang/invoke/MethodHandle" ∧ y.cls ≠ "java/lang/invoke/VarHandle") : (Cond.selects y.cls y y).before args s = true := by
  obtain ⟨c, r, m, h1, -, h3, -, k, h5, h6⟩ := Cond.selects_spec w
  have h7 := findClass_of_methodNamed h3
  cases h1.symm.trans h7
  exact selects_self_of_private (by rw [hn]; exact h7) h5 h6 hpriv hinst hy
theorem own_lremEq (x y : Int64) : x - (x / y) * y = x % y := by
  refine Int64.toInt_inj.mp ?_
  have h1 := rng64 (x % y)
  have e : x.toInt - x.toInt.tdiv y.toInt * y.toInt = (x % y).toInt := by rw [Int64.toInt_mod, Int.tmod_def, Int.mul_comm]
  rw [Int64.toInt_sub, Int64.toInt_mul, Int64.toInt_div, Int.bmod_mul_bmod, Int.sub_bmod_bmod, e]
  exact Int.bmod_eq_of_le_mul_two (by omega) (by omega)
theorem lremM {p : Program} {l : Launch} {e : Env} {R : Room} {s : State} {m : MethodId} {args : Array Value} {below : List Frame} {meth : Method} {c : Code} {T : State} {locs : List Loc} {cells slots : Nat} {g : JFrame} {target : State} (X : Stand p l e R s m args below meth c T locs cells slots) (hx : p.tables.exec = Jvm.exec) (hg : g.method = m) {x y : Int64} {rest : List Value} (hd : decode c.code g.pc = .ok (.lrem, 1)) (hs : g.stack = .long y :: .long x :: rest) (hy : y ≠ 0)
    (hr : Steps p.tables e below (T.setTop { g with pc := g.pc + 1, stack := .long (x % y) :: rest }) target) : Steps p.tables e below (T.setTop g) target :=
  XS.lrem X.here hx hg hd hs hy (by rw [own_lremEq]; exact hr)
/-! comparisons by the numbers -/
theorem tltI {x y : Int32} (h : x.toInt < y.toInt) : if_icmp.holds .lt x y = true ∧ if_icmp.holds .ge x y = false ∧ if_icmp.holds .gt y x = true ∧ if_icmp.holds .le y x = false := tlt (Int32.lt_iff_toInt_lt.mpr h)
theorem fltI {x y : Int32} (h : ¬ x.toInt < y.toInt) : if_icmp.holds .lt x y = false ∧ if_icmp.holds .ge x y = true ∧ if_icmp.holds .gt y x = false ∧ if_icmp.holds .le y x = true := flt (fun q => h (Int32.lt_iff_toInt_lt.mp q))
theorem teqI {x y : Int32} (h : x.toInt = y.toInt) : if_icmp.holds .eq x y = true ∧ if_icmp.holds .ne x y = false := teq (Int32.toInt_inj.mp h)
theorem feqI {x y : Int32} (h : ¬ x.toInt = y.toInt) : if_icmp.holds .eq x y = false ∧ if_icmp.holds .ne x y = true := feq (fun q => h (congrArg _ q))
theorem tltZ {x y : Int32} (h : x.toInt < y.toInt) : (y = 0 → ifCond.holds .lt x = true ∧ ifCond.holds .ge x = false) ∧ (x = 0 → ifCond.holds .gt y = true ∧ ifCond.holds .le y = false) :=
  ⟨fun q => by subst q; exact ⟨(if0 _ _).trans (tltI h).1, (if0 _ _).trans (tltI h).2.1⟩, fun q => by subst q; exact ⟨(if0 _ _).trans (tltI h).2.2.1, (if0 _ _).trans (tltI h).2.2.2⟩⟩
theorem tltL {x y : Int64} (h : x.toInt < y.toInt) : ifCond.holds .lt (lcmpW x y) = true ∧ ifCond.holds .ge (lcmpW x y) = false ∧ ifCond.holds .gt (lcmpW y x) = true ∧ ifCond.holds .le (lcmpW y x) = false :=
  have h' := Int64.lt_iff_toInt_lt.mpr h
  ⟨(if0 _ _).trans (tlt ((lw_lt x y).mpr h')).1, (if0 _ _).trans (tlt ((lw_lt x y).mpr h')).2.1, (if0 _ _).trans (tlt ((lw_gt y x).mpr h')).2.2.1, (if0 _ _).trans (tlt ((lw_gt y x).mpr h')).2.2.2⟩
theorem fltL {x y : Int64} (h : ¬ x.toInt < y.toInt) : ifCond.holds .lt (lcmpW x y) = false ∧ ifCond.holds .ge (lcmpW x y) = true ∧ ifCond.holds .gt (lcmpW y x) = false ∧ ifCond.holds .le (lcmpW y x) = true :=
  have h1 : ¬ lcmpW x y < 0 := fun q => h (Int64.lt_iff_toInt_lt.mp ((lw_lt x y).mp q))
  have h2 : ¬ 0 < lcmpW y x := fun q => h (Int64.lt_iff_toInt_lt.mp ((lw_gt y x).mp q))
  ⟨(if0 _ _).trans (flt h1).1, (if0 _ _).trans (flt h1).2.1, (if0 _ _).trans (flt h2).2.2.1, (if0 _ _).trans (flt h2).2.2.2⟩
theorem teqL {x y : Int64} (h : x.toInt = y.toInt) : ifCond.holds .eq (lcmpW x y) = true ∧ ifCond.holds .ne (lcmpW x y) = false :=
  have h' := (lw_eq x y).mpr (Int64.toInt_inj.mp h)
  ⟨(if0 _ _).trans (teq h').1, (if0 _ _).trans (teq h').2⟩
theorem feqL {x y : Int64} (h : ¬ x.toInt = y.toInt) : ifCond.holds .eq (lcmpW x y) = false ∧ ifCond.holds .ne (lcmpW x y) = true :=
  have h' : ¬ lcmpW x y = 0 := fun q => h (congrArg _ ((lw_eq x y).mp q))
  ⟨(if0 _ _).trans (feq h').1, (if0 _ _).trans (feq h').2⟩
end Jvm.OwnWalk
namespace Jvm.Pilot.@@N@@
open Jvm Jvm.ClassFile Sem Op Lib Jvm.Free Jvm.Stand Jvm.LawKit Jvm.RoadKit Bundle Jvm.OwnWalk Jvm.Pilot.@@N@@.Jvm.D
def mixA (q : Int64) : Int64 := (q ^^^ (XT.ushrL q (30 : Int32))) * (-4658895280553007687 : Int64)
def mixB (q : Int64) : Int64 := (q ^^^ (XT.ushrL q (27 : Int32))) * (-7723592293110705685 : Int64)
def mixF (q : Int64) : Int64 := (mixB (mixA q)) ^^^ (XT.ushrL (mixB (mixA q)) (31 : Int32))
def unA (q : Int64) : Int64 := (((q ^^^ (XT.ushrL q (31 : Int32))) ^^^ (XT.ushrL q (62 : Int32))) * (3573116690164977347 : Int64))
def unB (q : Int64) : Int64 := (((q ^^^ (XT.ushrL q (27 : Int32))) ^^^ (XT.ushrL q (54 : Int32))) * (-7575587736534282103 : Int64))
def unC (q : Int64) : Int64 := ((q ^^^ (XT.ushrL q (30 : Int32))) ^^^ (XT.ushrL q (60 : Int32)))
theorem own_ushrL (x : Int64) (y : Int32) (k : Nat) (hk : ((y.toInt64.toUInt64 &&& Int64.toUInt64 63).toBitVec % 64#64).toNat = k) : (XT.ushrL x y).toBitVec = x.toBitVec >>> k := by
  show x.toBitVec >>> ((y.toInt64.toUInt64 &&& Int64.toUInt64 63).toBitVec % 64#64) = _
  rw [BitVec.ushiftRight_eq', hk]
theorem own_sh (b : BitVec 64) (n : Nat) (h : 64 ≤ n + n + n) : ((b ^^^ b >>> n) ^^^ (b ^^^ b >>> n) >>> n) ^^^ (b ^^^ b >>> n) >>> (n + n) = b := by
  rw [BitVec.ushiftRight_xor_distrib, BitVec.ushiftRight_xor_distrib, ← BitVec.shiftRight_add, ← BitVec.shiftRight_add]
  have z : b >>> (n + (n + n)) = 0#64 := BitVec.ushiftRight_eq_zero (by omega)
  rw [z, BitVec.xor_zero]
  generalize b >>> n = c
  generalize b >>> (n + n) = d
  rw [BitVec.xor_assoc, BitVec.xor_assoc, BitVec.xor_assoc, BitVec.xor_self, BitVec.xor_zero, BitVec.xor_self, BitVec.xor_zero]
theorem own_unsh (x : Int64) (y y2 : Int32) (n : Nat) (h1 : ((y.toInt64.toUInt64 &&& Int64.toUInt64 63).toBitVec % 64#64).toNat = n) (h2 : ((y2.toInt64.toUInt64 &&& Int64.toUInt64 63).toBitVec % 64#64).toNat = n + n) (h : 64 ≤ n + n + n) :
    (((x ^^^ XT.ushrL x y) ^^^ XT.ushrL (x ^^^ XT.ushrL x y) y) ^^^ XT.ushrL (x ^^^ XT.ushrL x y) y2) = x := by
  apply Int64.toBitVec_inj.mp
  simp only [Int64.toBitVec_xor, own_ushrL _ y n h1, own_ushrL _ y2 (n + n) h2]
  exact own_sh _ _ h
theorem own_law (z : Int64) : unC (unB (unA (mixF z))) = z := by
  have e1 : unA (mixF z) = mixB (mixA z) * (3573116690164977347 : Int64) := by unfold unA mixF; rw [own_unsh _ 31 62 31 (by decide) (by decide) (by decide)]
  have e2 : mixB (mixA z) * (3573116690164977347 : Int64) = (mixA z ^^^ (XT.ushrL (mixA z) (27 : Int32))) := by
    unfold mixB; rw [Int64.mul_assoc, show ((-7723592293110705685 : Int64) * (3573116690164977347 : Int64)) = 1 from by decide, Int64.mul_one]
  have e3 : unB (mixA z ^^^ (XT.ushrL (mixA z) (27 : Int32))) = mixA z * (-7575587736534282103 : Int64) := by unfold unB; rw [own_unsh _ 27 54 27 (by decide) (by decide) (by decide)]
  have e4 : mixA z * (-7575587736534282103 : Int64) = (z ^^^ (XT.ushrL z (30 : Int32))) := by
    unfold mixA; rw [Int64.mul_assoc, show ((-4658895280553007687 : Int64) * (-7575587736534282103 : Int64)) = 1 from by decide, Int64.mul_one]
  rw [e1, e2, e3, e4]; unfold unC; rw [own_unsh _ 30 60 30 (by decide) (by decide) (by decide)]
theorem d1_0 : decode prog_26_method_3_code 0 = .ok (.lload_n 0, 1) := by decide +kernel
theorem d1_1 : decode prog_26_method_3_code 1 = .ok (.lload_n 0, 1) := by decide +kernel
theorem d1_2 : decode prog_26_method_3_code 2 = .ok (.bipush 30, 2) := by decide +kernel
theorem d1_4 : decode prog_26_method_3_code 4 = .ok (.lushr, 1) := by decide +kernel
theorem d1_5 : decode prog_26_method_3_code 5 = .ok (.lxor, 1) := by decide +kernel
theorem d1_6 : decode prog_26_method_3_code 6 = .ok (.ldc2_w 19, 3) := by decide +kernel
theorem d1_9 : decode prog_26_method_3_code 9 = .ok (.lmul, 1) := by decide +kernel
theorem d1_10 : decode prog_26_method_3_code 10 = .ok (.lstore_n 0, 1) := by decide +kernel
theorem d1_11 : decode prog_26_method_3_code 11 = .ok (.lload_n 0, 1) := by decide +kernel
theorem d1_12 : decode prog_26_method_3_code 12 = .ok (.lload_n 0, 1) := by decide +kernel
theorem d1_13 : decode prog_26_method_3_code 13 = .ok (.bipush 27, 2) := by decide +kernel
theorem d1_15 : decode prog_26_method_3_code 15 = .ok (.lushr, 1) := by decide +kernel
theorem d1_16 : decode prog_26_method_3_code 16 = .ok (.lxor, 1) := by decide +kernel
theorem d1_17 : decode prog_26_method_3_code 17 = .ok (.ldc2_w 21, 3) := by decide +kernel
theorem d1_20 : decode prog_26_method_3_code 20 = .ok (.lmul, 1) := by decide +kernel
theorem d1_21 : decode prog_26_method_3_code 21 = .ok (.lstore_n 0, 1) := by decide +kernel
theorem d1_22 : decode prog_26_method_3_code 22 = .ok (.lload_n 0, 1) := by decide +kernel
theorem d1_23 : decode prog_26_method_3_code 23 = .ok (.lload_n 0, 1) := by decide +kernel
theorem d1_24 : decode prog_26_method_3_code 24 = .ok (.bipush 31, 2) := by decide +kernel
theorem d1_26 : decode prog_26_method_3_code 26 = .ok (.lushr, 1) := by decide +kernel
theorem d1_27 : decode prog_26_method_3_code 27 = .ok (.lxor, 1) := by decide +kernel
theorem d1_28 : decode prog_26_method_3_code 28 = .ok (.lreturn, 1) := by decide +kernel
theorem pn_1 : plainName "com/example/sketchweave/sketchweave/hash/SeedSequence" = true := by first | (simp [plainName, overriddenIn]; done) | decide +kernel
theorem ef_1 (m : MethodId) (q : Int64) : entryFrame m #[(.long q)] 2 = mkF m 0 #[.val (.long q), .second] [] := by first | (simp [entryFrame, mkF, argsToLocals, Value.category]; done) | rfl
def Q1 (Z : State) (q : Int64) (h0 : Heap) (n0 : Nat) (v : Option Value) (h : Heap) (L : List Loc) : Prop := Fr n0 L ∧ h = h0 ∧ v = some (.long (mixF q))
set_option maxRecDepth 65536 in
set_option maxHeartbeats 40000000 in
theorem rm1 (l : Launch) (Z : State) (a0 : Array Value) (hw : ∀ d ∈ tables_1, d.before a0 Z = true) (ws : List Jvm.Cond) (q : Int64) (h0 : Heap) (n0 : Nat) (Zs : n0 ≤ h0.size) :
    MetFree l (⟨"com/example/sketchweave/sketchweave/hash/SeedSequence", "mix", "(J)J"⟩ : MethodName) (head1 (Jvm.Cond.code (⟨"com/example/sketchweave/sketchweave/hash/SeedSequence", "mix", "(J)J"⟩ : MethodName) prog_26_method_3_code 2 (some .long) :: ws) ({ frames := 0, cells := 0, slots := 0, locals := 0 } : Room)) (fun as' U => as' = #[(.long q)] ∧ Z.Warmed39 U.vm ∧ U.heap = h0) (fun _ _ _ _ _ => True) (fun _ U o U' => ∃ v L, o = .returned v ∧ Q1 Z q h0 n0 v U'.heap L ∧ FrameEnd U o U' L ({ frames := 0, cells := 0, slots := 0, locals := 0 } : Room).cells ({ frames := 0, cells := 0, slots := 0, locals := 0 } : Room).slots) := by
  refine MetFree.of_bodySF (plainFor_of_name pn_1) hisR ?_
  intro p e s m args below meth c s₁ Bd hml0 hP hK
  obtain ⟨rfl, hZ, hh⟩ := hP
  have hx := Bd.exec
  have hby := Bd.bytes
  have hml : c.maxLocals = 2 := hml0
  have hown : s.vm.findClass "com/example/sketchweave/sketchweave/hash/SeedSequence" = some m.cls := findClass_of_methodNamed Bd.named
  have hnm := (name_of_methodNamed Bd.named Bd.method).1
  have hlk : meth.locks = false := Bd.notSynchronized
  have X0 : Stand p l e ({ frames := 0, cells := 0, slots := 0, locals := 0 } : Room) s m #[(.long q)] below meth c s₁ [] 0 0 := Stand.of_body Bd
  have e0 : s₁.heap = h0 := by rw [← hh, Bd.state]; rfl
  have Nf := Fr.nil n0
  refine (?_ : Win p.tables e below (PostQ s (Q1 Z q h0 n0) ({ frames := 0, cells := 0, slots := 0, locals := 0 } : Room).cells ({ frames := 0, cells := 0, slots := 0, locals := 0 } : Room).slots) (s₁.setTop (entryFrame m #[(.long q)] 2)))
  rw [ef_1]
  show Win p.tables e below _ (s₁.setTop (mkF m 0 #[.val (.long q), .second] []))
  refine s_lloadN (pc' := 1) X0.here hx (hb hby d1_0) rfl rfl ?_
  refine s_lloadN (pc' := 2) X0.here hx (hb hby d1_1) rfl rfl ?_
  refine s_bipush (pc' := 4) (z := (30 : Int32)) X0.here hx (hb hby d1_2) rfl rfl ?_
  refine Win.go (fun _ k => XT.lushr X0.here hx rfl (hb hby d1_4) rfl k) ?_
  show Win p.tables e below _ (s₁.setTop (mkF m 5 #[.val (.long q), .second] [(.long (XT.ushrL q (30 : Int32))), (.long q)]))
  refine s_lxor (pc' := 6) X0.here hx (hb hby d1_5) rfl ?_
  refine Win.go (fun _ k => X0.ldc2Long hx hown (mvT hZ (hw _ (List.mem_of_getElem? (i := 4) rfl))) (g := (mkF m 6 #[.val (.long q), .second] [(.long (q ^^^ (XT.ushrL q (30 : Int32))))])) rfl (hb hby d1_6) _ k) ?_
  show Win p.tables e below _ (s₁.setTop (mkF m 9 #[.val (.long q), .second] [(.long (-4658895280553007687 : Int64)), (.long (q ^^^ (XT.ushrL q (30 : Int32))))]))
  refine s_lmul (pc' := 10) X0.here hx (hb hby d1_9) rfl ?_
  refine s_lstoreN (pc' := 11) (l' := #[.val (.long ((q ^^^ (XT.ushrL q (30 : Int32))) * (-4658895280553007687 : Int64))), .second]) X0.here hx (hb hby d1_10) rfl rfl ?_
  refine s_lloadN (pc' := 12) X0.here hx (hb hby d1_11) rfl rfl ?_
  refine s_lloadN (pc' := 13) X0.here hx (hb hby d1_12) rfl rfl ?_
  refine s_bipush (pc' := 15) (z := (27 : Int32)) X0.here hx (hb hby d1_13) rfl rfl ?_
  refine Win.go (fun _ k => XT.lushr X0.here hx rfl (hb hby d1_15) rfl k) ?_
  show Win p.tables e below _ (s₁.setTop (mkF m 16 #[.val (.long ((q ^^^ (XT.ushrL q (30 : Int32))) * (-4658895280553007687 : Int64))), .second] [(.long (XT.ushrL ((q ^^^ (XT.ushrL q (30 : Int32))) * (-4658895280553007687 : Int64)) (27 : Int32))), (.long ((q ^^^ (XT.ushrL q (30 : Int32))) * (-4658895280553007687 : Int64)))]))
  refine s_lxor (pc' := 17) X0.here hx (hb hby d1_16) rfl ?_
  refine Win.go (fun _ k => X0.ldc2Long hx hown (mvT hZ (hw _ (List.mem_of_getElem? (i := 5) rfl))) (g := (mkF m 17 #[.val (.long ((q ^^^ (XT.ushrL q (30 : Int32))) * (-4658895280553007687 : Int64))), .second] [(.long (((q ^^^ (XT.ushrL q (30 : Int32))) * (-4658895280553007687 : Int64)) ^^^ (XT.ushrL ((q ^^^ (XT.ushrL q (30 : Int32))) * (-4658895280553007687 : Int64)) (27 : Int32))))])) rfl (hb hby d1_17) _ k) ?_
  show Win p.tables e below _ (s₁.setTop (mkF m 20 #[.val (.long ((q ^^^ (XT.ushrL q (30 : Int32))) * (-4658895280553007687 : Int64))), .second] [(.long (-7723592293110705685 : Int64)), (.long (((q ^^^ (XT.ushrL q (30 : Int32))) * (-4658895280553007687 : Int64)) ^^^ (XT.ushrL ((q ^^^ (XT.ushrL q (30 : Int32))) * (-4658895280553007687 : Int64)) (27 : Int32))))]))
  refine s_lmul (pc' := 21) X0.here hx (hb hby d1_20) rfl ?_
  refine s_lstoreN (pc' := 22) (l' := #[.val (.long ((((q ^^^ (XT.ushrL q (30 : Int32))) * (-4658895280553007687 : Int64)) ^^^ (XT.ushrL ((q ^^^ (XT.ushrL q (30 : Int32))) * (-4658895280553007687 : Int64)) (27 : Int32))) * (-7723592293110705685 : Int64))), .second]) X0.here hx (hb hby d1_21) rfl rfl ?_
  refine s_lloadN (pc' := 23) X0.here hx (hb hby d1_22) rfl rfl ?_
  refine s_lloadN (pc' := 24) X0.here hx (hb hby d1_23) rfl rfl ?_
  refine s_bipush (pc' := 26) (z := (31 : Int32)) X0.here hx (hb hby d1_24) rfl rfl ?_
  refine Win.go (fun _ k => XT.lushr X0.here hx rfl (hb hby d1_26) rfl k) ?_
  show Win p.tables e below _ (s₁.setTop (mkF m 27 #[.val (.long ((((q ^^^ (XT.ushrL q (30 : Int32))) * (-4658895280553007687 : Int64)) ^^^ (XT.ushrL ((q ^^^ (XT.ushrL q (30 : Int32))) * (-4658895280553007687 : Int64)) (27 : Int32))) * (-7723592293110705685 : Int64))), .second] [(.long (XT.ushrL ((((q ^^^ (XT.ushrL q (30 : Int32))) * (-4658895280553007687 : Int64)) ^^^ (XT.ushrL ((q ^^^ (XT.ushrL q (30 : Int32))) * (-4658895280553007687 : Int64)) (27 : Int32))) * (-7723592293110705685 : Int64)) (31 : Int32))), (.long ((((q ^^^ (XT.ushrL q (30 : Int32))) * (-4658895280553007687 : Int64)) ^^^ (XT.ushrL ((q ^^^ (XT.ushrL q (30 : Int32))) * (-4658895280553007687 : Int64)) (27 : Int32))) * (-7723592293110705685 : Int64)))]))
  refine s_lxor (pc' := 28) X0.here hx (hb hby d1_27) rfl ?_
  refine winL X0 hx hlk e0 Bd.returns (hb hby d1_28) (by decide) (by decide) ?_
  exact ⟨Nf, rfl, rfl⟩
theorem d3_0 : decode method_2_code 0 = .ok (.lload_n 0, 1) := by decide +kernel
theorem d3_1 : decode method_2_code 1 = .ok (.lstore_n 2, 1) := by decide +kernel
theorem d3_2 : decode method_2_code 2 = .ok (.lload_n 2, 1) := by decide +kernel
theorem d3_3 : decode method_2_code 3 = .ok (.ldc2_w 7, 3) := by decide +kernel
theorem d3_6 : decode method_2_code 6 = .ok (.lload_n 0, 1) := by decide +kernel
theorem d3_7 : decode method_2_code 7 = .ok (.lload_n 2, 1) := by decide +kernel
theorem d3_8 : decode method_2_code 8 = .ok (.lmul, 1) := by decide +kernel
theorem d3_9 : decode method_2_code 9 = .ok (.lsub, 1) := by decide +kernel
theorem d3_10 : decode method_2_code 10 = .ok (.lmul, 1) := by decide +kernel
theorem d3_11 : decode method_2_code 11 = .ok (.lstore_n 2, 1) := by decide +kernel
theorem d3_12 : decode method_2_code 12 = .ok (.lload_n 2, 1) := by decide +kernel
theorem d3_13 : decode method_2_code 13 = .ok (.ldc2_w 7, 3) := by decide +kernel
theorem d3_16 : decode method_2_code 16 = .ok (.lload_n 0, 1) := by decide +kernel
theorem d3_17 : decode method_2_code 17 = .ok (.lload_n 2, 1) := by decide +kernel
theorem d3_18 : decode method_2_code 18 = .ok (.lmul, 1) := by decide +kernel
theorem d3_19 : decode method_2_code 19 = .ok (.lsub, 1) := by decide +kernel
theorem d3_20 : decode method_2_code 20 = .ok (.lmul, 1) := by decide +kernel
theorem d3_21 : decode method_2_code 21 = .ok (.lstore_n 2, 1) := by decide +kernel
theorem d3_22 : decode method_2_code 22 = .ok (.lload_n 2, 1) := by decide +kernel
theorem d3_23 : decode method_2_code 23 = .ok (.ldc2_w 7, 3) := by decide +kernel
theorem d3_26 : decode method_2_code 26 = .ok (.lload_n 0, 1) := by decide +kernel
theorem d3_27 : decode method_2_code 27 = .ok (.lload_n 2, 1) := by decide +kernel
theorem d3_28 : decode method_2_code 28 = .ok (.lmul, 1) := by decide +kernel
theorem d3_29 : decode method_2_code 29 = .ok (.lsub, 1) := by decide +kernel
theorem d3_30 : decode method_2_code 30 = .ok (.lmul, 1) := by decide +kernel
theorem d3_31 : decode method_2_code 31 = .ok (.lstore_n 2, 1) := by decide +kernel
theorem d3_32 : decode method_2_code 32 = .ok (.lload_n 2, 1) := by decide +kernel
theorem d3_33 : decode method_2_code 33 = .ok (.ldc2_w 7, 3) := by decide +kernel
theorem d3_36 : decode method_2_code 36 = .ok (.lload_n 0, 1) := by decide +kernel
theorem d3_37 : decode method_2_code 37 = .ok (.lload_n 2, 1) := by decide +kernel
theorem d3_38 : decode method_2_code 38 = .ok (.lmul, 1) := by decide +kernel
theorem d3_39 : decode method_2_code 39 = .ok (.lsub, 1) := by decide +kernel
theorem d3_40 : decode method_2_code 40 = .ok (.lmul, 1) := by decide +kernel
theorem d3_41 : decode method_2_code 41 = .ok (.lstore_n 2, 1) := by decide +kernel
theorem d3_42 : decode method_2_code 42 = .ok (.lload_n 2, 1) := by decide +kernel
theorem d3_43 : decode method_2_code 43 = .ok (.ldc2_w 7, 3) := by decide +kernel
theorem d3_46 : decode method_2_code 46 = .ok (.lload_n 0, 1) := by decide +kernel
theorem d3_47 : decode method_2_code 47 = .ok (.lload_n 2, 1) := by decide +kernel
theorem d3_48 : decode method_2_code 48 = .ok (.lmul, 1) := by decide +kernel
theorem d3_49 : decode method_2_code 49 = .ok (.lsub, 1) := by decide +kernel
theorem d3_50 : decode method_2_code 50 = .ok (.lmul, 1) := by decide +kernel
theorem d3_51 : decode method_2_code 51 = .ok (.lstore_n 2, 1) := by decide +kernel
theorem d3_52 : decode method_2_code 52 = .ok (.lload_n 2, 1) := by decide +kernel
theorem d3_53 : decode method_2_code 53 = .ok (.lreturn, 1) := by decide +kernel
theorem pn_3 : plainName "com/example/sketchweave/sketchweave/hash/SeedSequenceMixPinLaw" = true := by first | (simp [plainName, overriddenIn]; done) | decide +kernel
theorem ef_3a (m : MethodId)  : entryFrame m #[(.long (-7723592293110705685 : Int64))] 4 = mkF m 0 #[.val (.long (-7723592293110705685 : Int64)), .second, .unset, .unset] [] := by first | (simp [entryFrame, mkF, argsToLocals, Value.category]; done) | rfl
def Q3a (Z : State)  (h0 : Heap) (n0 : Nat) (v : Option Value) (h : Heap) (L : List Loc) : Prop := Fr n0 L ∧ h = h0 ∧ v = some (.long (3573116690164977347 : Int64))
set_option maxRecDepth 65536 in
set_option maxHeartbeats 40000000 in
theorem rm3a (l : Launch) (Z : State) (a0 : Array Value) (hw : ∀ d ∈ tables_1, d.before a0 Z = true) (ws : List Jvm.Cond)  (h0 : Heap) (n0 : Nat) (Zs : n0 ≤ h0.size) :
    MetFree l (⟨"com/example/sketchweave/sketchweave/hash/SeedSequenceMixPinLaw", "inverseOdd", "(J)J"⟩ : MethodName) (head1 (Jvm.Cond.code (⟨"com/example/sketchweave/sketchweave/hash/SeedSequenceMixPinLaw", "inverseOdd", "(J)J"⟩ : MethodName) method_2_code 4 (some .long) :: ws) ({ frames := 0, cells := 0, slots := 0, locals := 0 } : Room)) (fun as' U => as' = #[(.long (-7723592293110705685 : Int64))] ∧ Z.Warmed39 U.vm ∧ U.heap = h0) (fun _ _ _ _ _ => True) (fun _ U o U' => ∃ v L, o = .returned v ∧ Q3a Z  h0 n0 v U'.heap L ∧ FrameEnd U o U' L ({ frames := 0, cells := 0, slots := 0, locals := 0 } : Room).cells ({ frames := 0, cells := 0, slots := 0, locals := 0 } : Room).slots) := by
  refine MetFree.of_bodySF (plainFor_of_name pn_3) hisR ?_
  intro p e s m args below meth c s₁ Bd hml0 hP hK
  obtain ⟨rfl, hZ, hh⟩ := hP
  have hx := Bd.exec
  have hby := Bd.bytes
  have hml : c.maxLocals = 4 := hml0
  have hown : s.vm.findClass "com/example/sketchweave/sketchweave/hash/SeedSequenceMixPinLaw" = some m.cls := findClass_of_methodNamed Bd.named
  have hnm := (name_of_methodNamed Bd.named Bd.method).1
  have hlk : meth.locks = false := Bd.notSynchronized
  have X0 : Stand p l e ({ frames := 0, cells := 0, slots := 0, locals := 0 } : Room) s m #[(.long (-7723592293110705685 : Int64))] below meth c s₁ [] 0 0 := Stand.of_body Bd
  have e0 : s₁.heap = h0 := by rw [← hh, Bd.state]; rfl
  have Nf := Fr.nil n0
  refine (?_ : Win p.tables e below (PostQ s (Q3a Z  h0 n0) ({ frames := 0, cells := 0, slots := 0, locals := 0 } : Room).cells ({ frames := 0, cells := 0, slots := 0, locals := 0 } : Room).slots) (s₁.setTop (entryFrame m #[(.long (-7723592293110705685 : Int64))] 4)))
  rw [ef_3a]
  show Win p.tables e below _ (s₁.setTop (mkF m 0 #[.val (.long (-7723592293110705685 : Int64)), .second, .unset, .unset] []))
  refine s_lloadN (pc' := 1) X0.here hx (hb hby d3_0) rfl rfl ?_
  refine s_lstoreN (pc' := 2) (l' := #[.val (.long (-7723592293110705685 : Int64)), .second, .val (.long (-7723592293110705685 : Int64)), .second]) X0.here hx (hb hby d3_1) rfl rfl ?_
  refine s_lloadN (pc' := 3) X0.here hx (hb hby d3_2) rfl rfl ?_
  refine Win.go (fun _ k => X0.ldc2Long hx hown (mvT hZ (hw _ (List.mem_of_getElem? (i := 14) rfl))) (g := (mkF m 3 #[.val (.long (-7723592293110705685 : Int64)), .second, .val (.long (-7723592293110705685 : Int64)), .second] [(.long (-7723592293110705685 : Int64))])) rfl (hb hby d3_3) _ k) ?_
  show Win p.tables e below _ (s₁.setTop (mkF m 6 #[.val (.long (-7723592293110705685 : Int64)), .second, .val (.long (-7723592293110705685 : Int64)), .second] [(.long (2 : Int64)), (.long (-7723592293110705685 : Int64))]))
  refine s_lloadN (pc' := 7) X0.here hx (hb hby d3_6) rfl rfl ?_
  refine s_lloadN (pc' := 8) X0.here hx (hb hby d3_7) rfl rfl ?_
  refine Win.go (fun _ k => XS.lmul X0.here hx rfl (hb hby d3_8) rfl k) ?_
  show Win p.tables e below _ (s₁.setTop (mkF m 9 #[.val (.long (-7723592293110705685 : Int64)), .second, .val (.long (-7723592293110705685 : Int64)), .second] [(.long (-2506106533470335559 : Int64)), (.long (2 : Int64)), (.long (-7723592293110705685 : Int64))]))
  refine Win.go (fun _ k => XS.lsub X0.here hx rfl (hb hby d3_9) rfl k) ?_
  show Win p.tables e below _ (s₁.setTop (mkF m 10 #[.val (.long (-7723592293110705685 : Int64)), .second, .val (.long (-7723592293110705685 : Int64)), .second] [(.long (2506106533470335561 : Int64)), (.long (-7723592293110705685 : Int64))]))
  refine Win.go (fun _ k => XS.lmul X0.here hx rfl (hb hby d3_10) rfl k) ?_
  show Win p.tables e below _ (s₁.setTop (mkF m 11 #[.val (.long (-7723592293110705685 : Int64)), .second, .val (.long (-7723592293110705685 : Int64)), .second] [(.long (-46693593342655997 : Int64))]))
  refine s_lstoreN (pc' := 12) (l' := #[.val (.long (-7723592293110705685 : Int64)), .second, .val (.long (-46693593342655997 : Int64)), .second]) X0.here hx (hb hby d3_11) rfl rfl ?_
  refine s_lloadN (pc' := 13) X0.here hx (hb hby d3_12) rfl rfl ?_
  refine Win.go (fun _ k => X0.ldc2Long hx hown (mvT hZ (hw _ (List.mem_of_getElem? (i := 14) rfl))) (g := (mkF m 13 #[.val (.long (-7723592293110705685 : Int64)), .second, .val (.long (-46693593342655997 : Int64)), .second] [(.long (-46693593342655997 : Int64))])) rfl (hb hby d3_13) _ k) ?_
  show Win p.tables e below _ (s₁.setTop (mkF m 16 #[.val (.long (-7723592293110705685 : Int64)), .second, .val (.long (-46693593342655997 : Int64)), .second] [(.long (2 : Int64)), (.long (-46693593342655997 : Int64))]))
  refine s_lloadN (pc' := 17) X0.here hx (hb hby d3_16) rfl rfl ?_
  refine s_lloadN (pc' := 18) X0.here hx (hb hby d3_17) rfl rfl ?_
  refine Win.go (fun _ k => XS.lmul X0.here hx rfl (hb hby d3_18) rfl k) ?_
  show Win p.tables e below _ (s₁.setTop (mkF m 19 #[.val (.long (-7723592293110705685 : Int64)), .second, .val (.long (-46693593342655997 : Int64)), .second] [(.long (2757642028831722433 : Int64)), (.long (2 : Int64)), (.long (-46693593342655997 : Int64))]))
  refine Win.go (fun _ k => XS.lsub X0.here hx rfl (hb hby d3_19) rfl k) ?_
  show Win p.tables e below _ (s₁.setTop (mkF m 20 #[.val (.long (-7723592293110705685 : Int64)), .second, .val (.long (-46693593342655997 : Int64)), .second] [(.long (-2757642028831722431 : Int64)), (.long (-46693593342655997 : Int64))]))
  refine Win.go (fun _ k => XS.lmul X0.here hx rfl (hb hby d3_20) rfl k) ?_
  show Win p.tables e below _ (s₁.setTop (mkF m 21 #[.val (.long (-7723592293110705685 : Int64)), .second, .val (.long (-46693593342655997 : Int64)), .second] [(.long (-8600650570905985341 : Int64))]))
  refine s_lstoreN (pc' := 22) (l' := #[.val (.long (-7723592293110705685 : Int64)), .second, .val (.long (-8600650570905985341 : Int64)), .second]) X0.here hx (hb hby d3_21) rfl rfl ?_
  refine s_lloadN (pc' := 23) X0.here hx (hb hby d3_22) rfl rfl ?_
  refine Win.go (fun _ k => X0.ldc2Long hx hown (mvT hZ (hw _ (List.mem_of_getElem? (i := 14) rfl))) (g := (mkF m 23 #[.val (.long (-7723592293110705685 : Int64)), .second, .val (.long (-8600650570905985341 : Int64)), .second] [(.long (-8600650570905985341 : Int64))])) rfl (hb hby d3_23) _ k) ?_
  show Win p.tables e below _ (s₁.setTop (mkF m 26 #[.val (.long (-7723592293110705685 : Int64)), .second, .val (.long (-8600650570905985341 : Int64)), .second] [(.long (2 : Int64)), (.long (-8600650570905985341 : Int64))]))
  refine s_lloadN (pc' := 27) X0.here hx (hb hby d3_26) rfl rfl ?_
  refine s_lloadN (pc' := 28) X0.here hx (hb hby d3_27) rfl rfl ?_
  refine Win.go (fun _ k => XS.lmul X0.here hx rfl (hb hby d3_28) rfl k) ?_
  show Win p.tables e below _ (s₁.setTop (mkF m 29 #[.val (.long (-7723592293110705685 : Int64)), .second, .val (.long (-8600650570905985341 : Int64)), .second] [(.long (-637534387594465279 : Int64)), (.long (2 : Int64)), (.long (-8600650570905985341 : Int64))]))
  refine Win.go (fun _ k => XS.lsub X0.here hx rfl (hb hby d3_29) rfl k) ?_
  show Win p.tables e below _ (s₁.setTop (mkF m 30 #[.val (.long (-7723592293110705685 : Int64)), .second, .val (.long (-8600650570905985341 : Int64)), .second] [(.long (637534387594465281 : Int64)), (.long (-8600650570905985341 : Int64))]))
  refine Win.go (fun _ k => XS.lmul X0.here hx rfl (hb hby d3_30) rfl k) ?_
  show Win p.tables e below _ (s₁.setTop (mkF m 31 #[.val (.long (-7723592293110705685 : Int64)), .second, .val (.long (-8600650570905985341 : Int64)), .second] [(.long (-8904469923522310461 : Int64))]))
  refine s_lstoreN (pc' := 32) (l' := #[.val (.long (-7723592293110705685 : Int64)), .second, .val (.long (-8904469923522310461 : Int64)), .second]) X0.here hx (hb hby d3_31) rfl rfl ?_
  refine s_lloadN (pc' := 33) X0.here hx (hb hby d3_32) rfl rfl ?_
  refine Win.go (fun _ k => X0.ldc2Long hx hown (mvT hZ (hw _ (List.mem_of_getElem? (i := 14) rfl))) (g := (mkF m 33 #[.val (.long (-7723592293110705685 : Int64)), .second, .val (.long (-8904469923522310461 : Int64)), .second] [(.long (-8904469923522310461 : Int64))])) rfl (hb hby d3_33) _ k) ?_
  show Win p.tables e below _ (s₁.setTop (mkF m 36 #[.val (.long (-7723592293110705685 : Int64)), .second, .val (.long (-8904469923522310461 : Int64)), .second] [(.long (2 : Int64)), (.long (-8904469923522310461 : Int64))]))
  refine s_lloadN (pc' := 37) X0.here hx (hb hby d3_36) rfl rfl ?_
  refine s_lloadN (pc' := 38) X0.here hx (hb hby d3_37) rfl rfl ?_
  refine Win.go (fun _ k => XS.lmul X0.here hx rfl (hb hby d3_38) rfl k) ?_
  show Win p.tables e below _ (s₁.setTop (mkF m 39 #[.val (.long (-7723592293110705685 : Int64)), .second, .val (.long (-8904469923522310461 : Int64)), .second] [(.long (-2485260188148301823 : Int64)), (.long (2 : Int64)), (.long (-8904469923522310461 : Int64))]))
  refine Win.go (fun _ k => XS.lsub X0.here hx rfl (hb hby d3_39) rfl k) ?_
  show Win p.tables e below _ (s₁.setTop (mkF m 40 #[.val (.long (-7723592293110705685 : Int64)), .second, .val (.long (-8904469923522310461 : Int64)), .second] [(.long (2485260188148301825 : Int64)), (.long (-8904469923522310461 : Int64))]))
  refine Win.go (fun _ k => XS.lmul X0.here hx rfl (hb hby d3_40) rfl k) ?_
  show Win p.tables e below _ (s₁.setTop (mkF m 41 #[.val (.long (-7723592293110705685 : Int64)), .second, .val (.long (-8904469923522310461 : Int64)), .second] [(.long (4274833807104642755 : Int64))]))
  refine s_lstoreN (pc' := 42) (l' := #[.val (.long (-7723592293110705685 : Int64)), .second, .val (.long (4274833807104642755 : Int64)), .second]) X0.here hx (hb hby d3_41) rfl rfl ?_
  refine s_lloadN (pc' := 43) X0.here hx (hb hby d3_42) rfl rfl ?_
  refine Win.go (fun _ k => X0.ldc2Long hx hown (mvT hZ (hw _ (List.mem_of_getElem? (i := 14) rfl))) (g := (mkF m 43 #[.val (.long (-7723592293110705685 : Int64)), .second, .val (.long (4274833807104642755 : Int64)), .second] [(.long (4274833807104642755 : Int64))])) rfl (hb hby d3_43) _ k) ?_
  show Win p.tables e below _ (s₁.setTop (mkF m 46 #[.val (.long (-7723592293110705685 : Int64)), .second, .val (.long (4274833807104642755 : Int64)), .second] [(.long (2 : Int64)), (.long (4274833807104642755 : Int64))]))
  refine s_lloadN (pc' := 47) X0.here hx (hb hby d3_46) rfl rfl ?_
  refine s_lloadN (pc' := 48) X0.here hx (hb hby d3_47) rfl rfl ?_
  refine Win.go (fun _ k => XS.lmul X0.here hx rfl (hb hby d3_48) rfl k) ?_
  show Win p.tables e below _ (s₁.setTop (mkF m 49 #[.val (.long (-7723592293110705685 : Int64)), .second, .val (.long (4274833807104642755 : Int64)), .second] [(.long (9042946576783245313 : Int64)), (.long (2 : Int64)), (.long (4274833807104642755 : Int64))]))
  refine Win.go (fun _ k => XS.lsub X0.here hx rfl (hb hby d3_49) rfl k) ?_
  show Win p.tables e below _ (s₁.setTop (mkF m 50 #[.val (.long (-7723592293110705685 : Int64)), .second, .val (.long (4274833807104642755 : Int64)), .second] [(.long (-9042946576783245311 : Int64)), (.long (4274833807104642755 : Int64))]))
  refine Win.go (fun _ k => XS.lmul X0.here hx rfl (hb hby d3_50) rfl k) ?_
  show Win p.tables e below _ (s₁.setTop (mkF m 51 #[.val (.long (-7723592293110705685 : Int64)), .second, .val (.long (4274833807104642755 : Int64)), .second] [(.long (3573116690164977347 : Int64))]))
  refine s_lstoreN (pc' := 52) (l' := #[.val (.long (-7723592293110705685 : Int64)), .second, .val (.long (3573116690164977347 : Int64)), .second]) X0.here hx (hb hby d3_51) rfl rfl ?_
  refine s_lloadN (pc' := 53) X0.here hx (hb hby d3_52) rfl rfl ?_
  refine winL X0 hx hlk e0 Bd.returns (hb hby d3_53) (by decide) (by decide) ?_
  exact ⟨Nf, rfl, rfl⟩
theorem ef_3b (m : MethodId)  : entryFrame m #[(.long (-4658895280553007687 : Int64))] 4 = mkF m 0 #[.val (.long (-4658895280553007687 : Int64)), .second, .unset, .unset] [] := by first | (simp [entryFrame, mkF, argsToLocals, Value.category]; done) | rfl
def Q3b (Z : State)  (h0 : Heap) (n0 : Nat) (v : Option Value) (h : Heap) (L : List Loc) : Prop := Fr n0 L ∧ h = h0 ∧ v = some (.long (-7575587736534282103 : Int64))
set_option maxRecDepth 65536 in
set_option maxHeartbeats 40000000 in
theorem rm3b (l : Launch) (Z : State) (a0 : Array Value) (hw : ∀ d ∈ tables_1, d.before a0 Z = true) (ws : List Jvm.Cond)  (h0 : Heap) (n0 : Nat) (Zs : n0 ≤ h0.size) :
    MetFree l (⟨"com/example/sketchweave/sketchweave/hash/SeedSequenceMixPinLaw", "inverseOdd", "(J)J"⟩ : MethodName) (head1 (Jvm.Cond.code (⟨"com/example/sketchweave/sketchweave/hash/SeedSequenceMixPinLaw", "inverseOdd", "(J)J"⟩ : MethodName) method_2_code 4 (some .long) :: ws) ({ frames := 0, cells := 0, slots := 0, locals := 0 } : Room)) (fun as' U => as' = #[(.long (-4658895280553007687 : Int64))] ∧ Z.Warmed39 U.vm ∧ U.heap = h0) (fun _ _ _ _ _ => True) (fun _ U o U' => ∃ v L, o = .returned v ∧ Q3b Z  h0 n0 v U'.heap L ∧ FrameEnd U o U' L ({ frames := 0, cells := 0, slots := 0, locals := 0 } : Room).cells ({ frames := 0, cells := 0, slots := 0, locals := 0 } : Room).slots) := by
  refine MetFree.of_bodySF (plainFor_of_name pn_3) hisR ?_
  intro p e s m args below meth c s₁ Bd hml0 hP hK
  obtain ⟨rfl, hZ, hh⟩ := hP
  have hx := Bd.exec
  have hby := Bd.bytes
  have hml : c.maxLocals = 4 := hml0
  have hown : s.vm.findClass "com/example/sketchweave/sketchweave/hash/SeedSequenceMixPinLaw" = some m.cls := findClass_of_methodNamed Bd.named
  have hnm := (name_of_methodNamed Bd.named Bd.method).1
  have hlk : meth.locks = false := Bd.notSynchronized
  have X0 : Stand p l e ({ frames := 0, cells := 0, slots := 0, locals := 0 } : Room) s m #[(.long (-4658895280553007687 : Int64))] below meth c s₁ [] 0 0 := Stand.of_body Bd
  have e0 : s₁.heap = h0 := by rw [← hh, Bd.state]; rfl
  have Nf := Fr.nil n0
  refine (?_ : Win p.tables e below (PostQ s (Q3b Z  h0 n0) ({ frames := 0, cells := 0, slots := 0, locals := 0 } : Room).cells ({ frames := 0, cells := 0, slots := 0, locals := 0 } : Room).slots) (s₁.setTop (entryFrame m #[(.long (-4658895280553007687 : Int64))] 4)))
  rw [ef_3b]
  show Win p.tables e below _ (s₁.setTop (mkF m 0 #[.val (.long (-4658895280553007687 : Int64)), .second, .unset, .unset] []))
  refine s_lloadN (pc' := 1) X0.here hx (hb hby d3_0) rfl rfl ?_
  refine s_lstoreN (pc' := 2) (l' := #[.val (.long (-4658895280553007687 : Int64)), .second, .val (.long (-4658895280553007687 : Int64)), .second]) X0.here hx (hb hby d3_1) rfl rfl ?_
  refine s_lloadN (pc' := 3) X0.here hx (hb hby d3_2) rfl rfl ?_
  refine Win.go (fun _ k => X0.ldc2Long hx hown (mvT hZ (hw _ (List.mem_of_getElem? (i := 14) rfl))) (g := (mkF m 3 #[.val (.long (-4658895280553007687 : Int64)), .second, .val (.long (-4658895280553007687 : Int64)), .second] [(.long (-4658895280553007687 : Int64))])) rfl (hb hby d3_3) _ k) ?_
  show Win p.tables e below _ (s₁.setTop (mkF m 6 #[.val (.long (-4658895280553007687 : Int64)), .second, .val (.long (-4658895280553007687 : Int64)), .second] [(.long (2 : Int64)), (.long (-4658895280553007687 : Int64))]))
  refine s_lloadN (pc' := 7) X0.here hx (hb hby d3_6) rfl rfl ?_
  refine s_lloadN (pc' := 8) X0.here hx (hb hby d3_7) rfl rfl ?_
  refine Win.go (fun _ k => XS.lmul X0.here hx rfl (hb hby d3_8) rfl k) ?_
  show Win p.tables e below _ (s₁.setTop (mkF m 9 #[.val (.long (-4658895280553007687 : Int64)), .second, .val (.long (-4658895280553007687 : Int64)), .second] [(.long (-7869164637350232143 : Int64)), (.long (2 : Int64)), (.long (-4658895280553007687 : Int64))]))
  refine Win.go (fun _ k => XS.lsub X0.here hx rfl (hb hby d3_9) rfl k) ?_
  show Win p.tables e below _ (s₁.setTop (mkF m 10 #[.val (.long (-4658895280553007687 : Int64)), .second, .val (.long (-4658895280553007687 : Int64)), .second] [(.long (7869164637350232145 : Int64)), (.long (-4658895280553007687 : Int64))]))
  refine Win.go (fun _ k => XS.lmul X0.here hx rfl (hb hby d3_10) rfl k) ?_
  show Win p.tables e below _ (s₁.setTop (mkF m 11 #[.val (.long (-4658895280553007687 : Int64)), .second, .val (.long (-4658895280553007687 : Int64)), .second] [(.long (-1950367960681664631 : Int64))]))
  refine s_lstoreN (pc' := 12) (l' := #[.val (.long (-4658895280553007687 : Int64)), .second, .val (.long (-1950367960681664631 : Int64)), .second]) X0.here hx (hb hby d3_11) rfl rfl ?_
  refine s_lloadN (pc' := 13) X0.here hx (hb hby d3_12) rfl rfl ?_
  refine Win.go (fun _ k => X0.ldc2Long hx hown (mvT hZ (hw _ (List.mem_of_getElem? (i := 14) rfl))) (g := (mkF m 13 #[.val (.long (-4658895280553007687 : Int64)), .second, .val (.long (-1950367960681664631 : Int64)), .second] [(.long (-1950367960681664631 : Int64))])) rfl (hb hby d3_13) _ k) ?_
  show Win p.tables e below _ (s₁.setTop (mkF m 16 #[.val (.long (-4658895280553007687 : Int64)), .second, .val (.long (-1950367960681664631 : Int64)), .second] [(.long (2 : Int64)), (.long (-1950367960681664631 : Int64))]))
  refine s_lloadN (pc' := 17) X0.here hx (hb hby d3_16) rfl rfl ?_
  refine s_lloadN (pc' := 18) X0.here hx (hb hby d3_17) rfl rfl ?_
  refine Win.go (fun _ k => XS.lmul X0.here hx rfl (hb hby d3_18) rfl k) ?_
  show Win p.tables e below _ (s₁.setTop (mkF m 19 #[.val (.long (-4658895280553007687 : Int64)), .second, .val (.long (-1950367960681664631 : Int64)), .second] [(.long (6245355300859143937 : Int64)), (.long (2 : Int64)), (.long (-1950367960681664631 : Int64))]))
  refine Win.go (fun _ k => XS.lsub X0.here hx rfl (hb hby d3_19) rfl k) ?_
  show Win p.tables e below _ (s₁.setTop (mkF m 20 #[.val (.long (-4658895280553007687 : Int64)), .second, .val (.long (-1950367960681664631 : Int64)), .second] [(.long (-6245355300859143935 : Int64)), (.long (-1950367960681664631 : Int64))]))
  refine Win.go (fun _ k => XS.lmul X0.here hx rfl (hb hby d3_20) rfl k) ?_
  show Win p.tables e below _ (s₁.setTop (mkF m 21 #[.val (.long (-4658895280553007687 : Int64)), .second, .val (.long (-1950367960681664631 : Int64)), .second] [(.long (2203917495349842057 : Int64))]))
  refine s_lstoreN (pc' := 22) (l' := #[.val (.long (-4658895280553007687 : Int64)), .second, .val (.long (2203917495349842057 : Int64)), .second]) X0.here hx (hb hby d3_21) rfl rfl ?_
  refine s_lloadN (pc' := 23) X0.here hx (hb hby d3_22) rfl rfl ?_
  refine Win.go (fun _ k => X0.ldc2Long hx hown (mvT hZ (hw _ (List.mem_of_getElem? (i := 14) rfl))) (g := (mkF m 23 #[.val (.long (-4658895280553007687 : Int64)), .second, .val (.long (2203917495349842057 : Int64)), .second] [(.long (2203917495349842057 : Int64))])) rfl (hb hby d3_23) _ k) ?_
  show Win p.tables e below _ (s₁.setTop (mkF m 26 #[.val (.long (-4658895280553007687 : Int64)), .second, .val (.long (2203917495349842057 : Int64)), .second] [(.long (2 : Int64)), (.long (2203917495349842057 : Int64))]))
  refine s_lloadN (pc' := 27) X0.here hx (hb hby d3_26) rfl rfl ?_
  refine s_lloadN (pc' := 28) X0.here hx (hb hby d3_27) rfl rfl ?_
  refine Win.go (fun _ k => XS.lmul X0.here hx rfl (hb hby d3_28) rfl k) ?_
  show Win p.tables e below _ (s₁.setTop (mkF m 29 #[.val (.long (-4658895280553007687 : Int64)), .second, .val (.long (2203917495349842057 : Int64)), .second] [(.long (1070253961011724289 : Int64)), (.long (2 : Int64)), (.long (2203917495349842057 : Int64))]))
  refine Win.go (fun _ k => XS.lsub X0.here hx rfl (hb hby d3_29) rfl k) ?_
  show Win p.tables e below _ (s₁.setTop (mkF m 30 #[.val (.long (-4658895280553007687 : Int64)), .second, .val (.long (2203917495349842057 : Int64)), .second] [(.long (-1070253961011724287 : Int64)), (.long (2203917495349842057 : Int64))]))
  refine Win.go (fun _ k => XS.lmul X0.here hx rfl (hb hby d3_30) rfl k) ?_
  show Win p.tables e below _ (s₁.setTop (mkF m 31 #[.val (.long (-4658895280553007687 : Int64)), .second, .val (.long (2203917495349842057 : Int64)), .second] [(.long (2756543469426151561 : Int64))]))
  refine s_lstoreN (pc' := 32) (l' := #[.val (.long (-4658895280553007687 : Int64)), .second, .val (.long (2756543469426151561 : Int64)), .second]) X0.here hx (hb hby d3_31) rfl rfl ?_
  refine s_lloadN (pc' := 33) X0.here hx (hb hby d3_32) rfl rfl ?_
  refine Win.go (fun _ k => X0.ldc2Long hx hown (mvT hZ (hw _ (List.mem_of_getElem? (i := 14) rfl))) (g := (mkF m 33 #[.val (.long (-4658895280553007687 : Int64)), .second, .val (.long (2756543469426151561 : Int64)), .second] [(.long (2756543469426151561 : Int64))])) rfl (hb hby d3_33) _ k) ?_
  show Win p.tables e below _ (s₁.setTop (mkF m 36 #[.val (.long (-4658895280553007687 : Int64)), .second, .val (.long (2756543469426151561 : Int64)), .second] [(.long (2 : Int64)), (.long (2756543469426151561 : Int64))]))
  refine s_lloadN (pc' := 37) X0.here hx (hb hby d3_36) rfl rfl ?_
  refine s_lloadN (pc' := 38) X0.here hx (hb hby d3_37) rfl rfl ?_
  refine Win.go (fun _ k => XS.lmul X0.here hx rfl (hb hby d3_38) rfl k) ?_
  show Win p.tables e below _ (s₁.setTop (mkF m 39 #[.val (.long (-4658895280553007687 : Int64)), .second, .val (.long (2756543469426151561 : Int64)), .second] [(.long (8638830007231184897 : Int64)), (.long (2 : Int64)), (.long (2756543469426151561 : Int64))]))
  refine Win.go (fun _ k => XS.lsub X0.here hx rfl (hb hby d3_39) rfl k) ?_
  show Win p.tables e below _ (s₁.setTop (mkF m 40 #[.val (.long (-4658895280553007687 : Int64)), .second, .val (.long (2756543469426151561 : Int64)), .second] [(.long (-8638830007231184895 : Int64)), (.long (2756543469426151561 : Int64))]))
  refine Win.go (fun _ k => XS.lmul X0.here hx rfl (hb hby d3_40) rfl k) ?_
  show Win p.tables e below _ (s₁.setTop (mkF m 41 #[.val (.long (-4658895280553007687 : Int64)), .second, .val (.long (2756543469426151561 : Int64)), .second] [(.long (-7575587736534282103 : Int64))]))
  refine s_lstoreN (pc' := 42) (l' := #[.val (.long (-4658895280553007687 : Int64)), .second, .val (.long (-7575587736534282103 : Int64)), .second]) X0.here hx (hb hby d3_41) rfl rfl ?_
  refine s_lloadN (pc' := 43) X0.here hx (hb hby d3_42) rfl rfl ?_
  refine Win.go (fun _ k => X0.ldc2Long hx hown (mvT hZ (hw _ (List.mem_of_getElem? (i := 14) rfl))) (g := (mkF m 43 #[.val (.long (-4658895280553007687 : Int64)), .second, .val (.long (-7575587736534282103 : Int64)), .second] [(.long (-7575587736534282103 : Int64))])) rfl (hb hby d3_43) _ k) ?_
  show Win p.tables e below _ (s₁.setTop (mkF m 46 #[.val (.long (-4658895280553007687 : Int64)), .second, .val (.long (-7575587736534282103 : Int64)), .second] [(.long (2 : Int64)), (.long (-7575587736534282103 : Int64))]))
  refine s_lloadN (pc' := 47) X0.here hx (hb hby d3_46) rfl rfl ?_
  refine s_lloadN (pc' := 48) X0.here hx (hb hby d3_47) rfl rfl ?_
  refine Win.go (fun _ k => XS.lmul X0.here hx rfl (hb hby d3_48) rfl k) ?_
  show Win p.tables e below _ (s₁.setTop (mkF m 49 #[.val (.long (-4658895280553007687 : Int64)), .second, .val (.long (-7575587736534282103 : Int64)), .second] [(.long (1 : Int64)), (.long (2 : Int64)), (.long (-7575587736534282103 : Int64))]))
  refine Win.go (fun _ k => XS.lsub X0.here hx rfl (hb hby d3_49) rfl k) ?_
  show Win p.tables e below _ (s₁.setTop (mkF m 50 #[.val (.long (-4658895280553007687 : Int64)), .second, .val (.long (-7575587736534282103 : Int64)), .second] [(.long (1 : Int64)), (.long (-7575587736534282103 : Int64))]))
  refine Win.go (fun _ k => XS.lmul X0.here hx rfl (hb hby d3_50) rfl k) ?_
  show Win p.tables e below _ (s₁.setTop (mkF m 51 #[.val (.long (-4658895280553007687 : Int64)), .second, .val (.long (-7575587736534282103 : Int64)), .second] [(.long (-7575587736534282103 : Int64))]))
  refine s_lstoreN (pc' := 52) (l' := #[.val (.long (-4658895280553007687 : Int64)), .second, .val (.long (-7575587736534282103 : Int64)), .second]) X0.here hx (hb hby d3_51) rfl rfl ?_
  refine s_lloadN (pc' := 53) X0.here hx (hb hby d3_52) rfl rfl ?_
  refine winL X0 hx hlk e0 Bd.returns (hb hby d3_53) (by decide) (by decide) ?_
  exact ⟨Nf, rfl, rfl⟩
theorem d2_0 : decode method_3_code 0 = .ok (.lload_n 0, 1) := by decide +kernel
theorem d2_1 : decode method_3_code 1 = .ok (.lload_n 0, 1) := by decide +kernel
theorem d2_2 : decode method_3_code 2 = .ok (.bipush 31, 2) := by decide +kernel
theorem d2_4 : decode method_3_code 4 = .ok (.lushr, 1) := by decide +kernel
theorem d2_5 : decode method_3_code 5 = .ok (.lxor, 1) := by decide +kernel
theorem d2_6 : decode method_3_code 6 = .ok (.lload_n 0, 1) := by decide +kernel
theorem d2_7 : decode method_3_code 7 = .ok (.bipush 62, 2) := by decide +kernel
theorem d2_9 : decode method_3_code 9 = .ok (.lushr, 1) := by decide +kernel
theorem d2_10 : decode method_3_code 10 = .ok (.lxor, 1) := by decide +kernel
theorem d2_11 : decode method_3_code 11 = .ok (.lstore_n 2, 1) := by decide +kernel
theorem d2_12 : decode method_3_code 12 = .ok (.lload_n 2, 1) := by decide +kernel
theorem d2_13 : decode method_3_code 13 = .ok (.ldc2_w 9, 3) := by decide +kernel
theorem d2_16 : decode method_3_code 16 = .ok (.invokestatic 11, 3) := by decide +kernel
theorem d2_19 : decode method_3_code 19 = .ok (.lmul, 1) := by decide +kernel
theorem d2_20 : decode method_3_code 20 = .ok (.lstore_n 2, 1) := by decide +kernel
theorem d2_21 : decode method_3_code 21 = .ok (.lload_n 2, 1) := by decide +kernel
theorem d2_22 : decode method_3_code 22 = .ok (.lload_n 2, 1) := by decide +kernel
theorem d2_23 : decode method_3_code 23 = .ok (.bipush 27, 2) := by decide +kernel
theorem d2_25 : decode method_3_code 25 = .ok (.lushr, 1) := by decide +kernel
theorem d2_26 : decode method_3_code 26 = .ok (.lxor, 1) := by decide +kernel
theorem d2_27 : decode method_3_code 27 = .ok (.lload_n 2, 1) := by decide +kernel
theorem d2_28 : decode method_3_code 28 = .ok (.bipush 54, 2) := by decide +kernel
theorem d2_30 : decode method_3_code 30 = .ok (.lushr, 1) := by decide +kernel
theorem d2_31 : decode method_3_code 31 = .ok (.lxor, 1) := by decide +kernel
theorem d2_32 : decode method_3_code 32 = .ok (.lstore_n 2, 1) := by decide +kernel
theorem d2_33 : decode method_3_code 33 = .ok (.lload_n 2, 1) := by decide +kernel
theorem d2_34 : decode method_3_code 34 = .ok (.ldc2_w 17, 3) := by decide +kernel
theorem d2_37 : decode method_3_code 37 = .ok (.invokestatic 11, 3) := by decide +kernel
theorem d2_40 : decode method_3_code 40 = .ok (.lmul, 1) := by decide +kernel
theorem d2_41 : decode method_3_code 41 = .ok (.lstore_n 2, 1) := by decide +kernel
theorem d2_42 : decode method_3_code 42 = .ok (.lload_n 2, 1) := by decide +kernel
theorem d2_43 : decode method_3_code 43 = .ok (.lload_n 2, 1) := by decide +kernel
theorem d2_44 : decode method_3_code 44 = .ok (.bipush 30, 2) := by decide +kernel
theorem d2_46 : decode method_3_code 46 = .ok (.lushr, 1) := by decide +kernel
theorem d2_47 : decode method_3_code 47 = .ok (.lxor, 1) := by decide +kernel
theorem d2_48 : decode method_3_code 48 = .ok (.lload_n 2, 1) := by decide +kernel
theorem d2_49 : decode method_3_code 49 = .ok (.bipush 60, 2) := by decide +kernel
theorem d2_51 : decode method_3_code 51 = .ok (.lushr, 1) := by decide +kernel
theorem d2_52 : decode method_3_code 52 = .ok (.lxor, 1) := by decide +kernel
theorem d2_53 : decode method_3_code 53 = .ok (.lstore_n 2, 1) := by decide +kernel
theorem d2_54 : decode method_3_code 54 = .ok (.lload_n 2, 1) := by decide +kernel
theorem d2_55 : decode method_3_code 55 = .ok (.lreturn, 1) := by decide +kernel
theorem pd_0 : parseMethodDescriptor "(J)J" = some ⟨[.long], some .long⟩ := by decide +kernel
theorem ef_2 (m : MethodId) (q : Int64) : entryFrame m #[(.long q)] 4 = mkF m 0 #[.val (.long q), .second, .unset, .unset] [] := by first | (simp [entryFrame, mkF, argsToLocals, Value.category]; done) | rfl
def Q2 (Z : State) (q : Int64) (h0 : Heap) (n0 : Nat) (v : Option Value) (h : Heap) (L : List Loc) : Prop := Fr n0 L ∧ h = h0 ∧ v = some (.long (unC (unB (unA q))))
set_option maxRecDepth 65536 in
set_option maxHeartbeats 40000000 in
theorem rm2 (l : Launch) (Z : State) (a0 : Array Value) (hw : ∀ d ∈ tables_1, d.before a0 Z = true) (ws : List Jvm.Cond) (q : Int64) (h0 : Heap) (n0 : Nat) (Zs : n0 ≤ h0.size) :
    MetFree l (⟨"com/example/sketchweave/sketchweave/hash/SeedSequenceMixPinLaw", "unmix", "(J)J"⟩ : MethodName) (head1 (Jvm.Cond.code (⟨"com/example/sketchweave/sketchweave/hash/SeedSequenceMixPinLaw", "unmix", "(J)J"⟩ : MethodName) method_3_code 4 (some .long) :: ws) ({ frames := 1, cells := 0, slots := 0, locals := 17 } : Room)) (fun as' U => as' = #[(.long q)] ∧ Z.Warmed39 U.vm ∧ U.heap = h0) (fun _ _ _ _ _ => True) (fun _ U o U' => ∃ v L, o = .returned v ∧ Q2 Z q h0 n0 v U'.heap L ∧ FrameEnd U o U' L ({ frames := 1, cells := 0, slots := 0, locals := 17 } : Room).cells ({ frames := 1, cells := 0, slots := 0, locals := 17 } : Room).slots) := by
  refine MetFree.of_bodySF (plainFor_of_name pn_3) hisR ?_
  intro p e s m args below meth c s₁ Bd hml0 hP hK
  obtain ⟨rfl, hZ, hh⟩ := hP
  have hx := Bd.exec
  have hby := Bd.bytes
  have hml : c.maxLocals = 4 := hml0
  have hown : s.vm.findClass "com/example/sketchweave/sketchweave/hash/SeedSequenceMixPinLaw" = some m.cls := findClass_of_methodNamed Bd.named
  have hnm := (name_of_methodNamed Bd.named Bd.method).1
  have hlk : meth.locks = false := Bd.notSynchronized
  have X0 : Stand p l e ({ frames := 1, cells := 0, slots := 0, locals := 17 } : Room) s m #[(.long q)] below meth c s₁ [] 0 0 := Stand.of_body Bd
  have e0 : s₁.heap = h0 := by rw [← hh, Bd.state]; rfl
  have Nf := Fr.nil n0
  refine (?_ : Win p.tables e below (PostQ s (Q2 Z q h0 n0) ({ frames := 1, cells := 0, slots := 0, locals := 17 } : Room).cells ({ frames := 1, cells := 0, slots := 0, locals := 17 } : Room).slots) (s₁.setTop (entryFrame m #[(.long q)] 4)))
  rw [ef_2]
  show Win p.tables e below _ (s₁.setTop (mkF m 0 #[.val (.long q), .second, .unset, .unset] []))
  refine s_lloadN (pc' := 1) X0.here hx (hb hby d2_0) rfl rfl ?_
  refine s_lloadN (pc' := 2) X0.here hx (hb hby d2_1) rfl rfl ?_
  refine s_bipush (pc' := 4) (z := (31 : Int32)) X0.here hx (hb hby d2_2) rfl rfl ?_
  refine Win.go (fun _ k => XT.lushr X0.here hx rfl (hb hby d2_4) rfl k) ?_
  show Win p.tables e below _ (s₁.setTop (mkF m 5 #[.val (.long q), .second, .unset, .unset] [(.long (XT.ushrL q (31 : Int32))), (.long q)]))
  refine s_lxor (pc' := 6) X0.here hx (hb hby d2_5) rfl ?_
  refine s_lloadN (pc' := 7) X0.here hx (hb hby d2_6) rfl rfl ?_
  refine s_bipush (pc' := 9) (z := (62 : Int32)) X0.here hx (hb hby d2_7) rfl rfl ?_
  refine Win.go (fun _ k => XT.lushr X0.here hx rfl (hb hby d2_9) rfl k) ?_
  show Win p.tables e below _ (s₁.setTop (mkF m 10 #[.val (.long q), .second, .unset, .unset] [(.long (XT.ushrL q (62 : Int32))), (.long (q ^^^ (XT.ushrL q (31 : Int32))))]))
  refine s_lxor (pc' := 11) X0.here hx (hb hby d2_10) rfl ?_
  refine s_lstoreN (pc' := 12) (l' := #[.val (.long q), .second, .val (.long ((q ^^^ (XT.ushrL q (31 : Int32))) ^^^ (XT.ushrL q (62 : Int32)))), .second]) X0.here hx (hb hby d2_11) rfl rfl ?_
  refine s_lloadN (pc' := 13) X0.here hx (hb hby d2_12) rfl rfl ?_
  refine Win.go (fun _ k => X0.ldc2Long hx hown (mvT hZ (hw _ (List.mem_of_getElem? (i := 10) rfl))) (g := (mkF m 13 #[.val (.long q), .second, .val (.long ((q ^^^ (XT.ushrL q (31 : Int32))) ^^^ (XT.ushrL q (62 : Int32)))), .second] [(.long ((q ^^^ (XT.ushrL q (31 : Int32))) ^^^ (XT.ushrL q (62 : Int32))))])) rfl (hb hby d2_13) _ k) ?_
  show Win p.tables e below _ (s₁.setTop (mkF m 16 #[.val (.long q), .second, .val (.long ((q ^^^ (XT.ushrL q (31 : Int32))) ^^^ (XT.ushrL q (62 : Int32)))), .second] [(.long (-7723592293110705685 : Int64)), (.long ((q ^^^ (XT.ushrL q (31 : Int32))) ^^^ (XT.ushrL q (62 : Int32))))]))
  obtain ⟨_, _, ⟨T_1, L_1, k_1, n_1⟩, -, X_1, ⟨Lc_1, hQ_1, l_1, y_1, z_1⟩, st_1⟩ := Jvm.LawKit.callS X0 hx (y := (⟨"com/example/sketchweave/sketchweave/hash/SeedSequenceMixPinLaw", "inverseOdd", "(J)J"⟩ : MethodName)) hown (mvT hZ (hw _ (List.mem_of_getElem? (i := 11) rfl))) (mvT hZ (hw _ (List.mem_of_getElem? (i := 12) rfl))) (mvT hZ (hw _ (List.mem_of_getElem? (i := 8) rfl))) (mvT hZ (hw _ (List.mem_of_getElem? (i := 13) rfl))) (by decide) (backOf (W := 2) (rm3a l Z a0 hw []  h0 n0 Zs ) hZ (hw _ (List.mem_of_getElem? (i := 13) rfl)) (hw _ (List.mem_of_getElem? (i := 8) rfl)) (by decide) (by decide)) (g := (mkF m 16 #[.val (.long q), .second, .val (.long ((q ^^^ (XT.ushrL q (31 : Int32))) ^^^ (XT.ushrL q (62 : Int32)))), .second] [(.long (-7723592293110705685 : Int64)), (.long ((q ^^^ (XT.ushrL q (31 : Int32))) ^^^ (XT.ushrL q (62 : Int32))))])) rfl (by rw [hml]; rfl) (argsL := [(.long (-7723592293110705685 : Int64))]) (rest := [(.long ((q ^^^ (XT.ushrL q (31 : Int32))) ^^^ (XT.ushrL q (62 : Int32))))]) (lenOf pd_0 rfl) rfl (by show 2 * 0 + _ ≤ _; exact Nat.le_of_eq rfl) (hb hby d2_16) (fun _ _ => ⟨rfl, e0, (by decide : 0 + 0 ≤ _), (by decide : 0 + 0 ≤ _)⟩)
  dsimp only [Pt.U, Pt.locs, Pt.cells, Pt.slots] at X_1 l_1 y_1 z_1 st_1 hQ_1
  subst l_1 y_1 z_1
  obtain ⟨Nq_1, e_1, rfl⟩ := hQ_1
  replace Nf := Fr.app Nf Nq_1
  refine Win.go st_1 ?_
  show Win p.tables e below _ (T_1.setTop (mkF m 19 #[.val (.long q), .second, .val (.long ((q ^^^ (XT.ushrL q (31 : Int32))) ^^^ (XT.ushrL q (62 : Int32)))), .second] [(.long (3573116690164977347 : Int64)), (.long ((q ^^^ (XT.ushrL q (31 : Int32))) ^^^ (XT.ushrL q (62 : Int32))))]))
  refine s_lmul (pc' := 20) X_1.here hx (hb hby d2_19) rfl ?_
  refine s_lstoreN (pc' := 21) (l' := #[.val (.long q), .second, .val (.long (((q ^^^ (XT.ushrL q (31 : Int32))) ^^^ (XT.ushrL q (62 : Int32))) * (3573116690164977347 : Int64))), .second]) X_1.here hx (hb hby d2_20) rfl rfl ?_
  generalize hy1 : (((q ^^^ (XT.ushrL q (31 : Int32))) ^^^ (XT.ushrL q (62 : Int32))) * (3573116690164977347 : Int64)) = y1
  show Win p.tables e below _ (T_1.setTop (mkF m 21 #[.val (.long q), .second, .val (.long y1), .second] []))
  refine s_lloadN (pc' := 22) X_1.here hx (hb hby d2_21) rfl rfl ?_
  refine s_lloadN (pc' := 23) X_1.here hx (hb hby d2_22) rfl rfl ?_
  refine s_bipush (pc' := 25) (z := (27 : Int32)) X_1.here hx (hb hby d2_23) rfl rfl ?_
  refine Win.go (fun _ k => XT.lushr X_1.here hx rfl (hb hby d2_25) rfl k) ?_
  show Win p.tables e below _ (T_1.setTop (mkF m 26 #[.val (.long q), .second, .val (.long y1), .second] [(.long (XT.ushrL y1 (27 : Int32))), (.long y1)]))
  refine s_lxor (pc' := 27) X_1.here hx (hb hby d2_26) rfl ?_
  refine s_lloadN (pc' := 28) X_1.here hx (hb hby d2_27) rfl rfl ?_
  refine s_bipush (pc' := 30) (z := (54 : Int32)) X_1.here hx (hb hby d2_28) rfl rfl ?_
  refine Win.go (fun _ k => XT.lushr X_1.here hx rfl (hb hby d2_30) rfl k) ?_
  show Win p.tables e below _ (T_1.setTop (mkF m 31 #[.val (.long q), .second, .val (.long y1), .second] [(.long (XT.ushrL y1 (54 : Int32))), (.long (y1 ^^^ (XT.ushrL y1 (27 : Int32))))]))
  refine s_lxor (pc' := 32) X_1.here hx (hb hby d2_31) rfl ?_
  refine s_lstoreN (pc' := 33) (l' := #[.val (.long q), .second, .val (.long ((y1 ^^^ (XT.ushrL y1 (27 : Int32))) ^^^ (XT.ushrL y1 (54 : Int32)))), .second]) X_1.here hx (hb hby d2_32) rfl rfl ?_
  refine s_lloadN (pc' := 34) X_1.here hx (hb hby d2_33) rfl rfl ?_
  refine Win.go (fun _ k => X_1.ldc2Long hx hown (mvT hZ (hw _ (List.mem_of_getElem? (i := 15) rfl))) (g := (mkF m 34 #[.val (.long q), .second, .val (.long ((y1 ^^^ (XT.ushrL y1 (27 : Int32))) ^^^ (XT.ushrL y1 (54 : Int32)))), .second] [(.long ((y1 ^^^ (XT.ushrL y1 (27 : Int32))) ^^^ (XT.ushrL y1 (54 : Int32))))])) rfl (hb hby d2_34) _ k) ?_
  show Win p.tables e below _ (T_1.setTop (mkF m 37 #[.val (.long q), .second, .val (.long ((y1 ^^^ (XT.ushrL y1 (27 : Int32))) ^^^ (XT.ushrL y1 (54 : Int32)))), .second] [(.long (-4658895280553007687 : Int64)), (.long ((y1 ^^^ (XT.ushrL y1 (27 : Int32))) ^^^ (XT.ushrL y1 (54 : Int32))))]))
  obtain ⟨_, _, ⟨T_2, L_2, k_2, n_2⟩, -, X_2, ⟨Lc_2, hQ_2, l_2, y_2, z_2⟩, st_2⟩ := Jvm.LawKit.callS X_1 hx (y := (⟨"com/example/sketchweave/sketchweave/hash/SeedSequenceMixPinLaw", "inverseOdd", "(J)J"⟩ : MethodName)) hown (mvT hZ (hw _ (List.mem_of_getElem? (i := 11) rfl))) (mvT hZ (hw _ (List.mem_of_getElem? (i := 12) rfl))) (mvT hZ (hw _ (List.mem_of_getElem? (i := 8) rfl))) (mvT hZ (hw _ (List.mem_of_getElem? (i := 13) rfl))) (by decide) (backOf (W := 2) (rm3b l Z a0 hw []  h0 n0 Zs ) hZ (hw _ (List.mem_of_getElem? (i := 13) rfl)) (hw _ (List.mem_of_getElem? (i := 8) rfl)) (by decide) (by decide)) (g := (mkF m 37 #[.val (.long q), .second, .val (.long ((y1 ^^^ (XT.ushrL y1 (27 : Int32))) ^^^ (XT.ushrL y1 (54 : Int32)))), .second] [(.long (-4658895280553007687 : Int64)), (.long ((y1 ^^^ (XT.ushrL y1 (27 : Int32))) ^^^ (XT.ushrL y1 (54 : Int32))))])) rfl (by rw [hml]; rfl) (argsL := [(.long (-4658895280553007687 : Int64))]) (rest := [(.long ((y1 ^^^ (XT.ushrL y1 (27 : Int32))) ^^^ (XT.ushrL y1 (54 : Int32))))]) (lenOf pd_0 rfl) rfl (by show 2 * 0 + _ ≤ _; exact Nat.le_of_eq rfl) (hb hby d2_37) (fun _ _ => ⟨rfl, e_1, (by decide : 0 + 0 ≤ _), (by decide : 0 + 0 ≤ _)⟩)
  dsimp only [Pt.U, Pt.locs, Pt.cells, Pt.slots] at X_2 l_2 y_2 z_2 st_2 hQ_2
  subst l_2 y_2 z_2
  obtain ⟨Nq_2, e_2, rfl⟩ := hQ_2
  replace Nf := Fr.app Nf Nq_2
  refine Win.go st_2 ?_
  show Win p.tables e below _ (T_2.setTop (mkF m 40 #[.val (.long q), .second, .val (.long ((y1 ^^^ (XT.ushrL y1 (27 : Int32))) ^^^ (XT.ushrL y1 (54 : Int32)))), .second] [(.long (-7575587736534282103 : Int64)), (.long ((y1 ^^^ (XT.ushrL y1 (27 : Int32))) ^^^ (XT.ushrL y1 (54 : Int32))))]))
  refine s_lmul (pc' := 41) X_2.here hx (hb hby d2_40) rfl ?_
  refine s_lstoreN (pc' := 42) (l' := #[.val (.long q), .second, .val (.long (((y1 ^^^ (XT.ushrL y1 (27 : Int32))) ^^^ (XT.ushrL y1 (54 : Int32))) * (-7575587736534282103 : Int64))), .second]) X_2.here hx (hb hby d2_41) rfl rfl ?_
  generalize hy2 : (((y1 ^^^ (XT.ushrL y1 (27 : Int32))) ^^^ (XT.ushrL y1 (54 : Int32))) * (-7575587736534282103 : Int64)) = y2
  show Win p.tables e below _ (T_2.setTop (mkF m 42 #[.val (.long q), .second, .val (.long y2), .second] []))
  refine s_lloadN (pc' := 43) X_2.here hx (hb hby d2_42) rfl rfl ?_
  refine s_lloadN (pc' := 44) X_2.here hx (hb hby d2_43) rfl rfl ?_
  refine s_bipush (pc' := 46) (z := (30 : Int32)) X_2.here hx (hb hby d2_44) rfl rfl ?_
  refine Win.go (fun _ k => XT.lushr X_2.here hx rfl (hb hby d2_46) rfl k) ?_
  show Win p.tables e below _ (T_2.setTop (mkF m 47 #[.val (.long q), .second, .val (.long y2), .second] [(.long (XT.ushrL y2 (30 : Int32))), (.long y2)]))
  refine s_lxor (pc' := 48) X_2.here hx (hb hby d2_47) rfl ?_
  refine s_lloadN (pc' := 49) X_2.here hx (hb hby d2_48) rfl rfl ?_
  refine s_bipush (pc' := 51) (z := (60 : Int32)) X_2.here hx (hb hby d2_49) rfl rfl ?_
  refine Win.go (fun _ k => XT.lushr X_2.here hx rfl (hb hby d2_51) rfl k) ?_
  show Win p.tables e below _ (T_2.setTop (mkF m 52 #[.val (.long q), .second, .val (.long y2), .second] [(.long (XT.ushrL y2 (60 : Int32))), (.long (y2 ^^^ (XT.ushrL y2 (30 : Int32))))]))
  refine s_lxor (pc' := 53) X_2.here hx (hb hby d2_52) rfl ?_
  refine s_lstoreN (pc' := 54) (l' := #[.val (.long q), .second, .val (.long ((y2 ^^^ (XT.ushrL y2 (30 : Int32))) ^^^ (XT.ushrL y2 (60 : Int32)))), .second]) X_2.here hx (hb hby d2_53) rfl rfl ?_
  refine s_lloadN (pc' := 55) X_2.here hx (hb hby d2_54) rfl rfl ?_
  refine winL X_2 hx hlk e_2 Bd.returns (hb hby d2_55) (by decide) (by decide) ?_
  exact ⟨Nf, rfl, by rw [← hy2, ← hy1]; rfl⟩
theorem ef_0 (m : MethodId) (z0 : Int64) : entryFrame m #[(.long z0)] maxLocals = mkF m 0 #[.val (.long z0), .second] [] := by first | (simp [entryFrame, mkF, argsToLocals, Value.category, maxLocals]; done) | rfl
def Q0 (Z : State) (z0 : Int64) (h0 : Heap) (n0 : Nat) (v : Option Value) (h : Heap) (L : List Loc) : Prop := Fr n0 L ∧ v = some (.int 1)
set_option maxRecDepth 65536 in
set_option maxHeartbeats 40000000 in
theorem rm0 (l : Launch) (Z : State) (a0 : Array Value) (hw : ∀ d ∈ tables_1, d.before a0 Z = true) (ws : List Jvm.Cond) (z0 : Int64) (h0 : Heap) (n0 : Nat) (Zs : n0 ≤ h0.size) :
    MetFree l x (head1 (Jvm.Cond.code x code maxLocals ret :: ws) room_1) (fun as' U => as' = #[(.long z0)] ∧ Z.Warmed39 U.vm ∧ U.heap = h0) (fun _ _ _ _ _ => True) (fun _ U o U' => ∃ v L, o = .returned v ∧ Q0 Z z0 h0 n0 v U'.heap L ∧ FrameEnd U o U' L room_1.cells room_1.slots) := by
  refine MetFree.of_bodySF (plainFor_of_name pn_3) hisR ?_
  intro p e s m args below meth c s₁ Bd hml0 hP hK
  obtain ⟨rfl, hZ, hh⟩ := hP
  have hx := Bd.exec
  have hby := Bd.bytes
  have hml : c.maxLocals = 2 := hml0
  have hown : s.vm.findClass "com/example/sketchweave/sketchweave/hash/SeedSequenceMixPinLaw" = some m.cls := findClass_of_methodNamed Bd.named
  have hnm := (name_of_methodNamed Bd.named Bd.method).1
  have hlk : meth.locks = false := Bd.notSynchronized
  have X0 : Stand p l e room_1 s m #[(.long z0)] below meth c s₁ [] 0 0 := Stand.of_body Bd
  have e0 : s₁.heap = h0 := by rw [← hh, Bd.state]; rfl
  have Nf := Fr.nil n0
  refine (?_ : Win p.tables e below (PostQ s (Q0 Z z0 h0 n0) room_1.cells room_1.slots) (s₁.setTop (entryFrame m #[(.long z0)] maxLocals)))
  rw [ef_0]
  show Win p.tables e below _ (s₁.setTop (mkF m 0 #[.val (.long z0), .second] []))
  refine s_lloadN (pc' := 1) X0.here hx (hb hby at_0) rfl rfl ?_
  obtain ⟨_, _, ⟨T_3, L_3, k_3, n_3⟩, -, X_3, ⟨Lc_3, hQ_3, l_3, y_3, z_3⟩, st_3⟩ := Jvm.LawKit.callS X0 hx (y := (⟨"com/example/sketchweave/sketchweave/hash/SeedSequence", "mix", "(J)J"⟩ : MethodName)) hown (mvT hZ (hw _ (List.mem_of_getElem? (i := 0) rfl))) (mvT hZ (hw _ (List.mem_of_getElem? (i := 1) rfl))) (mvT hZ (hw _ (List.mem_of_getElem? (i := 2) rfl))) (mvT hZ (hw _ (List.mem_of_getElem? (i := 3) rfl))) (by decide) (backOf (W := 0) (rm1 l Z a0 hw [] z0 h0 n0 Zs ) hZ (hw _ (List.mem_of_getElem? (i := 3) rfl)) (hw _ (List.mem_of_getElem? (i := 2) rfl)) (by decide) (by decide)) (g := (mkF m 1 #[.val (.long z0), .second] [(.long z0)])) rfl (by rw [hml]; rfl) (argsL := [(.long z0)]) (rest := []) (lenOf pd_0 rfl) rfl (by show 2 * 0 + _ ≤ _; exact Nat.le_of_eq rfl) (hb hby at_1) (fun _ _ => ⟨rfl, e0, (by decide : 0 + 0 ≤ _), (by decide : 0 + 0 ≤ _)⟩)
  dsimp only [Pt.U, Pt.locs, Pt.cells, Pt.slots] at X_3 l_3 y_3 z_3 st_3 hQ_3
  subst l_3 y_3 z_3
  obtain ⟨Nq_3, e_3, rfl⟩ := hQ_3
  replace Nf := Fr.app Nf Nq_3
  refine Win.go st_3 ?_
  show Win p.tables e below _ (T_3.setTop (mkF m 4 #[.val (.long z0), .second] [(.long (mixF z0))]))
  obtain ⟨_, _, ⟨T_4, L_4, k_4, n_4⟩, -, X_4, ⟨Lc_4, hQ_4, l_4, y_4, z_4⟩, st_4⟩ := Jvm.LawKit.callS X_3 hx (y := (⟨"com/example/sketchweave/sketchweave/hash/SeedSequenceMixPinLaw", "unmix", "(J)J"⟩ : MethodName)) hown (mvT hZ (hw _ (List.mem_of_getElem? (i := 6) rfl))) (mvT hZ (hw _ (List.mem_of_getElem? (i := 7) rfl))) (mvT hZ (hw _ (List.mem_of_getElem? (i := 8) rfl))) (mvT hZ (hw _ (List.mem_of_getElem? (i := 9) rfl))) (by decide) (backOf (W := 0) (rm2 l Z a0 hw [] (mixF z0) h0 n0 Zs ) hZ (hw _ (List.mem_of_getElem? (i := 9) rfl)) (hw _ (List.mem_of_getElem? (i := 8) rfl)) (by decide) (by decide)) (g := (mkF m 4 #[.val (.long z0), .second] [(.long (mixF z0))])) rfl (by rw [hml]; rfl) (argsL := [(.long (mixF z0))]) (rest := []) (lenOf pd_0 rfl) rfl (by show 2 * 0 + _ ≤ _; exact Nat.le_of_eq rfl) (hb hby at_4) (fun _ _ => ⟨rfl, e_3, (by decide : 0 + 0 ≤ _), (by decide : 0 + 0 ≤ _)⟩)
  dsimp only [Pt.U, Pt.locs, Pt.cells, Pt.slots] at X_4 l_4 y_4 z_4 st_4 hQ_4
  subst l_4 y_4 z_4
  obtain ⟨Nq_4, e_4, rfl⟩ := hQ_4
  replace Nf := Fr.app Nf Nq_4
  refine Win.go st_4 ?_
  show Win p.tables e below _ (T_4.setTop (mkF m 7 #[.val (.long z0), .second] [(.long (unC (unB (unA (mixF z0)))))]))
  refine s_lloadN (pc' := 8) X_4.here hx (hb hby at_7) rfl rfl ?_
  refine s_lcmp (pc' := 9) X_4.here hx (hb hby at_8) rfl ?_
  by_cases hc9 : ((unC (unB (unA (mixF z0))))).toInt = (z0).toInt
  · skip
    refine s_ifNo (pc' := 12) X_4.here hx (hb hby at_9) rfl (teqL (x := (unC (unB (unA (mixF z0))))) (y := z0) hc9).2 ?_
    refine s_iconst (pc' := 13) (z := (1 : Int32)) X_4.here hx (hb hby at_12) rfl rfl ?_
    refine s_goto (pc' := 17) X_4.here hx (hb hby at_13) (by decide) (by decide) ?_
    refine winN X_4 hx hlk e_4 (t := .boolean) Bd.returns (by simp) (hb hby at_17) (by decide) (by decide) (z' := 1) rfl ⟨Nf, rfl⟩
  · skip
    refine s_ifYes (pc' := 16) X_4.here hx (hb hby at_9) (feqL (x := (unC (unB (unA (mixF z0))))) (y := z0) hc9).2 (by decide) (by decide) ?_
    refine s_iconst (pc' := 17) (z := (0 : Int32)) X_4.here hx (hb hby at_16) rfl rfl ?_
    exfalso
    exact hc9 (congrArg _ (own_law z0))
set_option maxRecDepth 65536 in
set_option maxHeartbeats 40000000 in
theorem comes_1 {Post : Tables → Env → Array Value → State → Outcome → State → Prop} (hpost : ∀ tb e args s v u, (limb_1_1.after args s (.returned v) u = true ∧ limb_1_2.after args s (.returned v) u = true ∧ True) → FrameEnd s (.returned v) u (Jvm.fieldLocs frame_1_writes args s ++ Jvm.arrayLocs frame_1_arrays args s ++ Jvm.staticLocs frame_1_statics s) 0 0 → Post tb e args s (.returned v) u) :
    ArmFor flags0 classFile x code maxLocals ret World_1 tables_1 room_1 Calls_1 rest_1 Pre_1 Post := by
  intro l hfl _ _ p e ha hc hk s m args below hf hA hF happ hP
  obtain ⟨hcalls, hrest, hpre⟩ := hP
  obtain ⟨-, -, -, hnamed, -, -, -, hat⟩ := (Spec.applies_iff hf).mp happ
  obtain ⟨hg, hn⟩ := and_e (Cond.before_iff.mp (show (Jvm.Cond.and given_1 narrow_1).before args s = true from hpre))
  obtain ⟨g1, g2⟩ := and_e hg
  obtain ⟨w0, rfl⟩ : ∃ w0 : Value, args = #[w0] := by
    have hs : args.size = 1 := by simpa [Cond.value, given_1] using g1
    obtain ⟨L⟩ := args
    match L, hs with
    | [w0], _ => exact ⟨w0, rfl⟩
  have hw := fun d (hd : d ∈ tables_1) => atoms_spec (ws := Jvm.Cond.code x code maxLocals ret :: tables_1) hat d (List.mem_cons_of_mem _ hd)
  have hfit : Fit s := fun {y c} hc i hi => by
    obtain ⟨ha, rfl⟩ := Array.getElem?_eq_some_iff.mp hc
    have q := List.all_eq_true.mp ((Array.all_eq_true_iff_forall_mem.mp hF) _ (Array.getElem_mem ha)) i (List.mem_range.mpr hi)
    simpa [Array.getElem?_eq_getElem hi] using q
  obtain ⟨i0, ei0⟩ := isL_v g2
  obtain rfl : w0 = (.long i0) := Option.some.inj ei0
  obtain ⟨n, o, h1, h2, h3, _, L, rfl, ⟨N, rfl⟩, hq⟩ := rm0 l s _ hw tables_1 i0 s.heap s.heap.size (Nat.le_refl _) p e ha hc hk s m _ below hf ((Spec.applies_iff_loose hf).mp happ).1 ⟨rfl, State.Warmed39.refl s, rfl⟩ trivial
  refine ⟨n, _, h1, h2, h3, hpost _ _ _ _ _ _ ⟨Cond.after_iff.mpr rfl, Cond.after_iff.mpr (eq_i res_at (Term.int_eval (1)) rfl), trivial⟩ ⟨hq.1, hq.2.1, (hq.2.2.sift fun y hy => Or.inr (N y hy)).mono (by decide) (by decide)⟩⟩
theorem main_1_1 : Claimed_1_1 := comes_1 fun _ _ _ _ _ _ h hF => ⟨h.1, hF⟩
theorem main_1_2 : Claimed_1_2 := comes_1 fun _ _ _ _ _ _ h hF => ⟨h.2.1, hF⟩
end Jvm.Pilot.@@N@@
namespace Jvm.Pilot.@@N@@
open Jvm Jvm.ClassFile Sem Op Lib Jvm.Free Jvm.Stand Jvm.Pilot.@@N@@.Jvm.D
/-! MADE BY PROGRAM (witnessworld.py) out of the Statement's table words and the real class files: 9 classes; the members and pool entries that the words name. The judged class is class 1, her method 3. -/
namespace start1
open Jvm.ClassFile
def u (s : String) : CpInfo := .utf8 (stringToUtf16 s)
/-- a pool by its gaps: so many unusable entries, then the entry; so many at the end -/
def gap : Nat → List CpInfo → List CpInfo
  | 0, r => r
  | n + 1, r => .unusable :: gap n r
def poolList (es : List (Nat × CpInfo)) (last : Nat) : List CpInfo := es.foldr (fun e r => gap e.1 (e.2 :: r)) (gap last [])
def pool (es : List (Nat × CpInfo)) (last : Nat) : Array CpInfo := ⟨poolList es last⟩
def fileOf (pool : Array CpInfo) (this : Nat) (attrs : Array Attribute := #[]) (ms : Array MethodInfo := #[]) (fl : Nat := 33) (sup : Nat := 0) (ifs : Array Nat := #[]) (fds : Array FieldInfo := #[]) : ClassFile where
  minorVersion := 0
  majorVersion := 65
  constantPool := pool
  accessFlags := fl
  thisClass := this
  superClass := sup
  interfaces := ifs
  fields := fds
  methods := ms
  attributes := attrs
def plain (name : String) (sup : Option ClassId) : Class where
  name := name
  kind := .ordinary
  loader := none
  accessFlags := 33
  super := sup
  interfaces := #[]
  cf := none
  fields := #[]
  methods := #[]
  instanceTypes := #[]
  staticTypes := #[]
  resolved := #[]
  callSites := []
  init := .initialized
  statics := none
  mirror := none

def pool0 : Array CpInfo := pool [(5, u "<init>"), (0, u "()V"), (1, .class_ 10), (1, u "java/lang/Object")] 113

def k0m0 : Method := { name := "<init>", desc := "()V", sig := { parameters := [], returnType := none }, accessFlags := 1, code := none }
/-- java/lang/Object -/
def k0 : Class := { plain "java/lang/Object" none with
  accessFlags := 33
  interfaces := #[]
  cf := some (fileOf pool0 8 #[] #[{ accessFlags := 1, nameIndex := 5, descriptorIndex := 6, attributes := #[] }] 33 0 #[] #[])
  fields := #[]
  methods := #[k0m0]
  instanceTypes := #[]
  staticTypes := #[]
  resolved := Array.replicate 124 none
  statics := none }

def pool1 : Array CpInfo := pool [(2, .class_ 4), (1, u "java/lang/Object"), (0, u "<init>"), (0, u "()V"), (0, .long 2), (1, .long 10723151780598845931), (1, .methodref 12 13), (0, .class_ 14), (0, .nameAndType 15 16), (0, u "com/example/sketchweave/sketchweave/hash/SeedSequenceMixPinLaw"), (0, u "inverseOdd"), (0, u "(J)J"), (0, .long 13787848793156543929), (1, .methodref 20 21), (0, .class_ 22), (0, .nameAndType 23 16), (0, u "com/example/sketchweave/sketchweave/hash/SeedSequence"), (0, u "mix"), (0, .methodref 12 25), (0, .nameAndType 26 16), (0, u "unmix"), (2, u "law"), (0, u "(J)Z")] 3

def k1m0 : Method := { name := "<init>", desc := "()V", sig := { parameters := [], returnType := none }, accessFlags := 2, code := none }
def k1c1 : Code := { maxStack := 8, maxLocals := 4, code := method_2_code, exceptionTable := #[], attributes := #[] }
def k1m1 : Method := { name := "inverseOdd", desc := "(J)J", sig := { parameters := [.long], returnType := some .long }, accessFlags := 10, code := some k1c1 }
def k1c2 : Code := { maxStack := 5, maxLocals := 4, code := method_3_code, exceptionTable := #[], attributes := #[] }
def k1m2 : Method := { name := "unmix", desc := "(J)J", sig := { parameters := [.long], returnType := some .long }, accessFlags := 10, code := some k1c2 }
def k1c3 : Code := { maxStack := 4, maxLocals := 2, code := code, exceptionTable := #[], attributes := #[] }
def k1m3 : Method := { name := "law", desc := "(J)Z", sig := { parameters := [.long], returnType := some .boolean }, accessFlags := 9, code := some k1c3 }
/-- com/example/sketchweave/sketchweave/hash/SeedSequenceMixPinLaw -/
def k1 : Class := { plain "com/example/sketchweave/sketchweave/hash/SeedSequenceMixPinLaw" (some 0) with
  accessFlags := 49
  interfaces := #[]
  cf := some (fileOf pool1 12 #[] #[{ accessFlags := 2, nameIndex := 5, descriptorIndex := 6, attributes := #[] }, { accessFlags := 10, nameIndex := 15, descriptorIndex := 16, attributes := #[] }, { accessFlags := 10, nameIndex := 26, descriptorIndex := 16, attributes := #[] }, { accessFlags := 9, nameIndex := 29, descriptorIndex := 30, attributes := #[] }] 49 2 #[] #[])
  fields := #[]
  methods := #[k1m0, k1m1, k1m2, k1m3]
  instanceTypes := #[]
  staticTypes := #[]
  resolved := Array.replicate 34 none
  statics := none }

def pool2 : Array CpInfo := pool [(2, .class_ 4), (1, u "java/lang/Object"), (3, .class_ 10), (1, u "com/example/sketchweave/sketchweave/hash/SeedSequence"), (0, u "state"), (0, u "J"), (4, u "mix"), (0, u "(J)J"), (0, .long 13787848793156543929), (1, .long 10723151780598845931), (1, u "GAMMA")] 8

def k2c0 : Code := { maxStack := 5, maxLocals := 2, code := prog_26_method_3_code, exceptionTable := #[], attributes := #[] }
def k2m0 : Method := { name := "mix", desc := "(J)J", sig := { parameters := [.long], returnType := some .long }, accessFlags := 8, code := some k2c0 }
/-- com/example/sketchweave/sketchweave/hash/SeedSequence -/
def k2 : Class := { plain "com/example/sketchweave/sketchweave/hash/SeedSequence" (some 0) with
  accessFlags := 49
  interfaces := #[]
  cf := some (fileOf pool2 8 #[] #[{ accessFlags := 8, nameIndex := 17, descriptorIndex := 18, attributes := #[] }] 49 2 #[] #[{ accessFlags := 24, nameIndex := 23, descriptorIndex := 12, attributes := #[] }, { accessFlags := 2, nameIndex := 11, descriptorIndex := 12, attributes := #[] }])
  fields := #[{ name := "GAMMA", type := .long, accessFlags := 24, slot := 0, constantValue := 0 }, { name := "state", type := .long, accessFlags := 2, slot := 0, constantValue := 0 }]
  methods := #[k2m0]
  instanceTypes := #[.long]
  staticTypes := #[.long]
  resolved := Array.replicate 32 none
  statics := none }

def pool3 : Array CpInfo := pool [(1, u "java/lang/Cloneable"), (0, .class_ 1), (0, u "java/lang/Object"), (0, .class_ 3)] 3

/-- java/lang/Cloneable -/
def k3 : Class := { plain "java/lang/Cloneable" (some 0) with
  accessFlags := 1537
  interfaces := #[]
  cf := some (fileOf pool3 2 #[] #[] 1537 4 #[] #[])
  fields := #[]
  methods := #[]
  instanceTypes := #[]
  staticTypes := #[]
  resolved := Array.replicate 8 none
  statics := none }

def pool4 : Array CpInfo := pool [(1, u "java/io/Serializable"), (0, .class_ 1), (0, u "java/lang/Object"), (0, .class_ 3)] 3

/-- java/io/Serializable -/
def k4 : Class := { plain "java/io/Serializable" (some 0) with
  accessFlags := 1537
  interfaces := #[]
  cf := some (fileOf pool4 2 #[] #[] 1537 4 #[] #[])
  fields := #[]
  methods := #[]
  instanceTypes := #[]
  staticTypes := #[]
  resolved := Array.replicate 8 none
  statics := none }

/-- the primitive byte -/
def k5 : Class := { plain "byte" none with kind := .primitive 'B', accessFlags := 0x411 }
/-- [B -/
def k6 : Class := { plain "[B" (some 0) with kind := .array 5 .byte, interfaces := #[3, 4], accessFlags := 1041 }

/-- the primitive int -/
def k7 : Class := { plain "int" none with kind := .primitive 'I', accessFlags := 0x411 }
/-- [I -/
def k8 : Class := { plain "[I" (some 0) with kind := .array 7 .int, interfaces := #[3, 4], accessFlags := 1041 }

def heap : Heap := #[]
def classes : Array Class := #[k0, k1, k2, k3, k4, k5, k6, k7, k8]
def interned : List (Array UInt16 × Addr) := []
def slotsUsed : Nat := 0
def theMethod : MethodId := ⟨1, 3⟩
def args0 : Array Value := #[.long 5]
def aboutOver (below : List Frame) : State where
  vm := { classes := classes, interned := interned.toArray }
  heap := heap
  slotsUsed := slotsUsed
  threads := #[{ frames := .invoking theMethod args0 :: below }]
def below0 : List Frame := [.native { method := ⟨0, 0⟩, args := #[] }]
def about1 : State := aboutOver below0
def p0 : Program := .bare "" "" ""
def e0 : Env := launch0.env 0 0 0
theorem w_frames : about1.frames = Frame.invoking theMethod args0 :: below0 := rfl
set_option maxRecDepth 65536 in
theorem w_args : argsFit about1.vm theMethod args0 = true := by decide +kernel
set_option maxRecDepth 65536 in
theorem w_heap : heapFits about1 = true := by decide +kernel
set_option maxRecDepth 65536 in
theorem w_runnable : about1.curStatus? = some .runnable := by decide +kernel
set_option maxRecDepth 65536 in
theorem w_alone : about1.alone = true := by decide +kernel
set_option maxRecDepth 65536 in
theorem w_named : about1.methodNamed? x = some theMethod := by decide +kernel
set_option maxRecDepth 65536 in
theorem w_hears : about1.hears theMethod below0 = true := by decide +kernel
set_option maxRecDepth 65536 in
theorem w_ripe : about1.ripe theMethod args0 below0 = true := by decide +kernel
theorem w_running : about1.status = .running := rfl
set_option maxRecDepth 65536 in
theorem w_room : about1.hasRoom e0.platform room_1 = true :=
  launch0.hasRoom_least _ room_1 (by decide +kernel) (by decide +kernel) (by decide +kernel) (by decide +kernel) (by decide +kernel) (by decide +kernel)
theorem allAtoms_all (ts : List Jvm.Cond) (a : Array Jvm.Value) (st : Jvm.State) : (allAtoms ts).before a st = ts.all (fun c => c.before a st) := by
  induction ts with
  | nil => rfl
  | cons c t ih =>
    show (Jvm.Cond.and c (allAtoms t)).before a st = _
    rw [Jvm.Cond.before_and, ih, List.all_cons]
def words1 : List Jvm.Cond := Jvm.Cond.code x code maxLocals ret :: tables_1
/-- a 'code' word, met by the world's own term for the bytes: nothing is compared byte by byte -/
theorem code_word {y : MethodName} {bytes : ByteArray} {mx : Nat} {rt : Option FieldType} {a : Array Value} {s : State} {m : MethodId} {meth : Method} {c : Code} (h1 : s.methodNamed? y = some m) (h2 : s.vm.method? m = some meth) (h3 : meth.code = some c) (h4 : c.code = bytes)
    (h5 : (c.maxLocals == mx && c.exceptionTable.isEmpty && decide (c.maxStack ≤ mostOperands) && decide (meth.sig.returnType = rt) && !meth.locks && decide (parseMethodDescriptor y.desc = some meth.sig)) = true) : (Jvm.Cond.code y bytes mx rt).before a s = true := by
  simp only [Bool.and_eq_true, beq_iff_eq, Bool.not_eq_true', decide_eq_true_eq] at h5
  obtain ⟨⟨⟨⟨⟨g1, g2⟩, g3⟩, g4⟩, g5⟩, g6⟩ := h5
  simp [Cond.before, Cond.holds, Cond.value, h1, h2, h3, h4, g1, g2, g3, g4, g5, g6]
def isCode : Jvm.Cond → Bool
  | .code _ _ _ _ => true
  | _ => false
theorem all_split {L : List Jvm.Cond} {P : Jvm.Cond → Bool} (h1 : L.all (fun c => isCode c || P c) = true) (h2 : ∀ c ∈ L.filter isCode, P c = true) : L.all P = true := by
  refine List.all_eq_true.mpr fun c hc => ?_
  have h := List.all_eq_true.mp h1 c hc
  rcases Bool.eq_false_or_eq_true (isCode c) with hi | hi
  · exact h2 c (List.mem_filter.mpr ⟨hc, hi⟩)
  · simpa [hi] using h
set_option maxRecDepth 65536 in
theorem w_c0 : (Jvm.Cond.code x code maxLocals ret).before args0 about1 = true := code_word (m := ⟨1, 3⟩) (meth := k1m3) (c := k1c3) (by decide +kernel) rfl rfl rfl (by decide +kernel)
set_option maxRecDepth 65536 in
theorem w_c1 : (Jvm.Cond.code ({ cls := "com/example/sketchweave/sketchweave/hash/SeedSequence", name := "mix", desc := "(J)J" } : Jvm.MethodName) prog_26_method_3_code (2 : Nat) (Option.some Jvm.ClassFile.FieldType.long)).before args0 about1 = true := code_word (m := ⟨2, 0⟩) (meth := k2m0) (c := k2c0) (by decide +kernel) rfl rfl rfl (by decide +kernel)
set_option maxRecDepth 65536 in
theorem w_c2 : (Jvm.Cond.code ({ cls := "com/example/sketchweave/sketchweave/hash/SeedSequenceMixPinLaw", name := "unmix", desc := "(J)J" } : Jvm.MethodName) method_3_code (4 : Nat) (Option.some Jvm.ClassFile.FieldType.long)).before args0 about1 = true := code_word (m := ⟨1, 2⟩) (meth := k1m2) (c := k1c2) (by decide +kernel) rfl rfl rfl (by decide +kernel)
set_option maxRecDepth 65536 in
theorem w_c3 : (Jvm.Cond.code ({ cls := "com/example/sketchweave/sketchweave/hash/SeedSequenceMixPinLaw", name := "inverseOdd", desc := "(J)J" } : Jvm.MethodName) method_2_code (4 : Nat) (Option.some Jvm.ClassFile.FieldType.long)).before args0 about1 = true := code_word (m := ⟨1, 1⟩) (meth := k1m1) (c := k1c1) (by decide +kernel) rfl rfl rfl (by decide +kernel)
def codes1 : List Jvm.Cond := [Jvm.Cond.code x code maxLocals ret, Jvm.Cond.code ({ cls := "com/example/sketchweave/sketchweave/hash/SeedSequence", name := "mix", desc := "(J)J" } : Jvm.MethodName) prog_26_method_3_code (2 : Nat) (Option.some Jvm.ClassFile.FieldType.long), Jvm.Cond.code ({ cls := "com/example/sketchweave/sketchweave/hash/SeedSequenceMixPinLaw", name := "unmix", desc := "(J)J" } : Jvm.MethodName) method_3_code (4 : Nat) (Option.some Jvm.ClassFile.FieldType.long), Jvm.Cond.code ({ cls := "com/example/sketchweave/sketchweave/hash/SeedSequenceMixPinLaw", name := "inverseOdd", desc := "(J)J" } : Jvm.MethodName) method_2_code (4 : Nat) (Option.some Jvm.ClassFile.FieldType.long)]
set_option maxRecDepth 65536 in
theorem codes_eq : words1.filter isCode = codes1 := rfl
theorem w_codes : ∀ c ∈ words1.filter isCode, c.before args0 about1 = true := by
  rw [codes_eq]
  intro c hc
  simp only [codes1, List.mem_cons, List.not_mem_nil, or_false] at hc
  rcases hc with rfl | rfl | rfl | rfl
  · exact w_c0
  · exact w_c1
  · exact w_c2
  · exact w_c3
set_option maxRecDepth 65536 in
theorem w_t1 : words1.all (fun c => isCode c || c.before args0 about1) = true := by decide +kernel
theorem w_tables : (allAtoms (Jvm.Cond.code x code maxLocals ret :: tables_1)).before args0 about1 = true := by
  rw [allAtoms_all]
  show words1.all (fun c => c.before args0 about1) = true
  refine all_split ?_ w_codes
  rw [w_t1]
set_option maxRecDepth 65536 in
theorem w_case : (Jvm.Cond.and given_1 narrow_1).before args0 about1 = true := by decide +kernel
theorem w_applies : (headSpec (Jvm.Cond.code x code maxLocals ret :: tables_1) room_1).applies x e0.platform about1 = true :=
  (Spec.applies_iff w_frames).mpr ⟨w_running, w_runnable, w_alone, w_named, w_hears, w_ripe, w_room, w_tables⟩
theorem atStart : AtStart classFile x code maxLocals ret World_1 tables_1 room_1 Calls_1 rest_1 Pre_1 launch0 p0 e0 about1 theMethod args0 below0 :=
  ⟨lists_1, trivial, launch0.admits_env _ _ _, launch0.least_env, fairChoices_fair.cas, fairChoices_fair.clock, w_frames, w_args, w_heap, w_applies, trivial, trivial, w_case⟩
end start1
theorem witness_1 : WitnessClaimed_1 := ⟨start1.p0, start1.e0, start1.about1, start1.theMethod, start1.args0, start1.below0, start1.atStart⟩
end Jvm.Pilot.@@N@@
