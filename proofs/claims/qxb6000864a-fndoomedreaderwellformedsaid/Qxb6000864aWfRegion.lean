import Derived.Test.Qxb6000864aWfPlain
import Derived.Test.Qxb6000864aDoomThirteen
namespace Go.Proofs.Qxb6000864a
open Go.RowKit
section
variable {o : Oper} {a : Act} {w : World} {K : Act → World → Prop} {Q : Exit → Act → World → Prop}
theorem st_assign {x : Operand} {v : Value} (ho : o.op = .assign x) (hx : a.eval x = v) (h : K (a.put o.dst v) w) : o.wp Try.prog a w K Q := by
  refine st_of ?_ h
  obtain ⟨dst, op, type, pos, after, guard⟩ := o
  simp only at ho
  subst ho
  simp only [execOp, hx]
  rfl
theorem st_index34 {x y : Operand} {b off n c k : Nat} (ho : o.op = .indexAddr 34 x y) (hx : a.eval x = .slice (some ⟨b, off, none⟩) n c) (hy : a.eval y = .int .i64 (k : Int)) (hk : k < n) (h : K (a.put o.dst (.pointer (some ⟨b, off + k * 4, none⟩))) w) : o.wp Try.prog a w K Q := by
  refine st_of ?_ h
  obtain ⟨dst, op, type, pos, after, guard⟩ := o
  simp only at ho
  subst ho
  simp only [execOp, hx, hy]
  simp [go_sem, hk]
theorem st_field56_1 {x : Operand} {b off : Nat} (ho : o.op = .fieldAddr 56 x 1) (hx : a.eval x = .pointer (some ⟨b, off, none⟩)) (h : K (a.put o.dst (.pointer (some ⟨b, off + 1, none⟩))) w) : o.wp Try.prog a w K Q := by
  refine st_of ?_ h
  obtain ⟨dst, op, type, pos, after, guard⟩ := o
  simp only at ho
  subst ho
  simp only [execOp, hx]
  simp [go_sem]
theorem st_field56_2 {x : Operand} {b off : Nat} (ho : o.op = .fieldAddr 56 x 2) (hx : a.eval x = .pointer (some ⟨b, off, none⟩)) (h : K (a.put o.dst (.pointer (some ⟨b, off + 2, none⟩))) w) : o.wp Try.prog a w K Q := by
  refine st_of ?_ h
  obtain ⟨dst, op, type, pos, after, guard⟩ := o
  simp only at ho
  subst ho
  simp only [execOp, hx]
  simp [go_sem]
theorem st_field54_0 {x : Operand} {b off : Nat} (ho : o.op = .fieldAddr 54 x 0) (hx : a.eval x = .pointer (some ⟨b, off, none⟩)) (h : K (a.put o.dst (.pointer (some ⟨b, off, none⟩))) w) : o.wp Try.prog a w K Q := by
  refine st_of ?_ h
  obtain ⟨dst, op, type, pos, after, guard⟩ := o
  simp only at ho
  subst ho
  simp only [execOp, hx]
  simp [go_sem]
theorem st_load2 {x : Operand} {b off : Nat} {v : Value} (ho : o.op = .load 2 x) (hx : a.eval x = .pointer (some ⟨b, off, none⟩)) (hv : w.cell? ⟨b, off, none⟩ = some v) (h : K (a.put o.dst v) w) : o.wp Try.prog a w K Q := by
  refine st_of ?_ h
  obtain ⟨dst, op, type, pos, after, guard⟩ := o
  simp only at ho
  subst ho
  simp only [execOp, hx]
  simp [go_sem, hv]
theorem st_build68 {x y : Operand} {x1 x2 : Int} (ho : o.op = .build 68 #[(0, x), (1, y)]) (hx : a.eval x = .int .i64 x1) (hy : a.eval y = .int .i64 x2) (h : K (a.put o.dst (.agg #[.int .i64 x1, .int .i64 x2])) w) : o.wp Try.prog a w K Q := by
  refine st_of ?_ h
  obtain ⟨dst, op, type, pos, after, guard⟩ := o
  simp only at ho
  subst ho
  simp [execOp, hx, hy]
  simp [go_sem]
theorem st_kv1 {x : Operand} {x1 x2 : Int} (ho : o.op = .buildSlice 66 1 #[(0, x)]) (hx : a.eval x = .agg #[.int .i64 x1, .int .i64 x2])
   (h : K (a.put o.dst (.slice (some ⟨w.heap.size, 0, none⟩) 1 1)) (w.alloc (.cells #[.int .i64 x1, .int .i64 x2] 68))) : o.wp Try.prog a w K Q := by
  refine st_of ?_ h
  obtain ⟨dst, op, type, pos, after, guard⟩ := o
  simp only at ho
  subst ho
  simp [execOp, hx]
  simp [go_sem]
end
def anc38 (j : Nat) : Bool := decide (j ≤ 13)
def Φ38 (w9 : World) (gb bs len cap eb eo en ec k : Nat) (vs : List Value) (x1 x2 : Int) : Nat → Value → World → Prop
  | 0, v, _ => v = .slice (some ⟨gb, 0, none⟩) len cap
  | 1, v, _ => v = .slice (some ⟨eb, eo, none⟩) en ec
  | 2, v, _ => v = .int .i64 (k : Int)
  | 3, v, _ => v = .pointer (some ⟨eb, eo + k * 4, none⟩)
  | 4, v, _ => v = .pointer (some ⟨eb, eo + k * 4 + 1, none⟩)
  | 5, v, _ => v = .int .i64 x1
  | 6, v, _ => v = .slice (some ⟨eb, eo, none⟩) en ec
  | 7, v, _ => v = .int .i64 (k : Int)
  | 8, v, _ => v = .pointer (some ⟨eb, eo + k * 4, none⟩)
  | 9, v, _ => v = .pointer (some ⟨eb, eo + k * 4 + 2, none⟩)
  | 10, v, _ => v = .pointer (some ⟨eb, eo + k * 4 + 2, none⟩)
  | 11, v, _ => v = .int .i64 x2
  | 12, v, _ => v = .agg #[.int .i64 x1, .int .i64 x2]
  | 13, v, w => ∃ b, v = .slice (some ⟨b, 0, none⟩) 1 1 ∧ w.heap[b]? = some (.cells #[.int .i64 x1, .int .i64 x2] 68 (0, 0))
  | 14, v, w => ∃ g c, v = .slice (some ⟨g, 0, none⟩) (len + 1) c ∧ w.ownsRow bs 68 2 (.slice (some ⟨g, 0, none⟩) (len + 1) c) (len + 1) (vs ++ [.int .i64 x1, .int .i64 x2]) ∧ w9.grownBy w (some gb)
  | _, _, _ => True
theorem Φ38_stay {w9 : World} {gb bs len cap eb eo en ec k : Nat} {vs : List Value} {x1 x2 : Int} : ∀ j, j ≠ 14 → ∀ v w w', Below w.heap.size w w' → Φ38 w9 gb bs len cap eb eo en ec k vs x1 x2 j v w → Φ38 w9 gb bs len cap eb eo en ec k vs x1 x2 j v w' := by
  intro j hj v w w' hbw h
  match j, hj, h with
  | 0, _, h | 1, _, h | 2, _, h | 3, _, h | 4, _, h | 5, _, h | 6, _, h | 7, _, h | 8, _, h | 9, _, h | 10, _, h | 11, _, h | 12, _, h => exact h
  | 13, _, h => obtain ⟨b, h1, h2⟩ := h; exact ⟨b, h1, block_stay hbw h2⟩
  | 14, hj, _ => exact absurd rfl hj
  | _ + 15, _, _ => trivial
set_option maxRecDepth 100000 in
set_option maxHeartbeats 4000000 in
theorem region38 {K : Act → World → Prop} {x : Array Oper} (hx : regionAt 38 (Try.f21.body.getD .skip) = x) {base : Array Value} (hsz : base.size = 214) {w9 : World} {gb bs len cap eb eo en ec k : Nat} {vs : List Value} {x1 x2 : Int}
    (h10 : base[10]? = some (.slice (some ⟨gb, 0, none⟩) len cap)) (h14 : base[14]? = some (.slice (some ⟨eb, eo, none⟩) en ec)) (h15 : base[15]? = some (.int .i64 (k : Int))) (hk : k < en)
    (c1 : w9.cell? ⟨eb, eo + k * 4 + 1, none⟩ = some (.int .i64 x1)) (c2 : w9.cell? ⟨eb, eo + k * 4 + 2, none⟩ = some (.int .i64 x2))
    (hown : w9.ownsRow bs 68 2 (.slice (some ⟨gb, 0, none⟩) len cap) len vs) (hlen : len ≤ 1048576) (hbs : bs ≤ w9.heap.size)
    (hK : ∀ a w g c, FrB base 122 15 a → w.ownsRow bs 68 2 (.slice (some ⟨g, 0, none⟩) (len + 1) c) (len + 1) (vs ++ [.int .i64 x1, .int .i64 x2]) → w9.grownBy w (some gb) → K (a.put (some 10) (.slice (some ⟨g, 0, none⟩) (len + 1) c)) w) :
    Code.wp Try.prog (.region 38 x true) (onlyN K) ⟨base, []⟩ w9 := by
  simp [regionAt, Try.f21] at hx
  subst hx
  refine region_flow (m := 14) (d0 := 122) (anc := anc38) (G := fun w => Below w9.heap.size w9 w) (Φ := Φ38 w9 gb bs len cap eb eo en ec k vs x1 x2) (by kernel_rfl) rfl (by decide +kernel) (fun j h => by simp [anc38] at h; simp; omega) (by decide) (by rw [hsz]; decide)
    (fun w w' h1 h2 => h2.trans (h1.mono h2.size)) Φ38_stay (fun j v w w' h1 h2 h => ?_) (all_lit ?_) ?_ (below_drewN (Below.refl _ _) 1)
  · have h1' : ¬ j ≤ 13 := by simpa [anc38] using h1
    match j, h1', h2, h with
    | 14, _, h2, _ => exact absurd rfl h2
    | _ + 15, _, _, _ => trivial
  · refine .cons (fun _ => ⟨fun _ _ a w hfr hg hd => ?_, fun h => absurd h (by decide), fun h => absurd h (by decide)⟩) (.cons (fun _ => ⟨fun _ _ a w hfr hg hd => ?_, fun h => absurd h (by decide), fun h => absurd h (by decide)⟩) (.cons (fun _ => ⟨fun _ _ a w hfr hg hd => ?_, fun h => absurd h (by decide), fun h => absurd h (by decide)⟩) (.cons (fun _ => ⟨fun _ _ a w hfr hg hd => ?_, fun h => absurd h (by decide), fun h => absurd h (by decide)⟩) (.cons (fun _ => ⟨fun _ _ a w hfr hg hd => ?_, fun h => absurd h (by decide), fun h => absurd h (by decide)⟩) (.cons (fun _ => ⟨fun _ _ a w hfr hg hd => ?_, fun h => absurd h (by decide), fun h => absurd h (by decide)⟩) (.cons (fun _ => ⟨fun _ _ a w hfr hg hd => ?_, fun h => absurd h (by decide), fun h => absurd h (by decide)⟩) (.cons (fun _ => ⟨fun _ _ a w hfr hg hd => ?_, fun h => absurd h (by decide), fun h => absurd h (by decide)⟩) (.cons (fun _ => ⟨fun _ _ a w hfr hg hd => ?_, fun h => absurd h (by decide), fun h => absurd h (by decide)⟩) (.cons (fun _ => ⟨fun _ _ a w hfr hg hd => ?_, fun h => absurd h (by decide), fun h => absurd h (by decide)⟩) (.cons (fun _ => ⟨fun _ _ a w hfr hg hd => ?_, fun h => absurd h (by decide), fun h => absurd h (by decide)⟩) (.cons (fun _ => ⟨fun _ _ a w hfr hg hd => ?_, fun h => absurd h (by decide), fun h => absurd h (by decide)⟩) (.cons (fun _ => ⟨fun _ _ a w hfr hg hd => ?_, fun h => absurd h (by decide), fun h => absurd h (by decide)⟩) (.cons (fun _ => ⟨fun _ _ a w hfr hg hd => ?_, fun h => absurd h (by decide), fun h => absurd h (by decide)⟩) (.cons (fun _ => ⟨fun h => absurd h (by decide), fun _ a w hfr hg hd => ?_, fun _ h => absurd rfl h⟩) (.cons (fun h => absurd h (by decide)) (.nil))))))))))))))))
    · exact st_move rfl (hfr.eval (.inl (by decide)) h10) ⟨_, rfl, Below.refl _ _, rfl⟩
    · exact st_move rfl (hfr.eval (.inl (by decide)) h14) ⟨_, rfl, Below.refl _ _, rfl⟩
    · exact st_move rfl (hfr.eval (.inl (by decide)) h15) ⟨_, rfl, Below.refl _ _, rfl⟩
    · exact st_index34 rfl (hd 1 (by kernel_rfl)) (hd 2 (by kernel_rfl)) hk ⟨_, rfl, Below.refl _ _, rfl⟩
    · exact st_field56_1 rfl (hd 3 (by kernel_rfl)) ⟨_, rfl, Below.refl _ _, rfl⟩
    · exact st_load2 rfl (hd 4 (by kernel_rfl)) (cell_stay hg c1) ⟨_, rfl, Below.refl _ _, rfl⟩
    · exact st_move rfl (hfr.eval (.inl (by decide)) h14) ⟨_, rfl, Below.refl _ _, rfl⟩
    · exact st_move rfl (hfr.eval (.inl (by decide)) h15) ⟨_, rfl, Below.refl _ _, rfl⟩
    · exact st_index34 rfl (hd 6 (by kernel_rfl)) (hd 7 (by kernel_rfl)) hk ⟨_, rfl, Below.refl _ _, rfl⟩
    · exact st_field56_2 rfl (hd 8 (by kernel_rfl)) ⟨_, rfl, Below.refl _ _, rfl⟩
    · exact st_field54_0 rfl (hd 9 (by kernel_rfl)) ⟨_, rfl, Below.refl _ _, rfl⟩
    · exact st_load2 rfl (hd 10 (by kernel_rfl)) (cell_stay hg c2) ⟨_, rfl, Below.refl _ _, rfl⟩
    · exact st_build68 rfl (hd 5 (by kernel_rfl)) (hd 11 (by kernel_rfl)) ⟨_, rfl, Below.refl _ _, rfl⟩
    · exact st_kv1 rfl (hd 12 (by kernel_rfl)) ⟨_, rfl, below_alloc _ _, w.heap.size, rfl, heap_alloc_new w _⟩
    · obtain ⟨b, e, hbk⟩ := hd 13 (by kernel_rfl)
      obtain ⟨i0, hi0, hz0, hz1, hz2⟩ := info_parts info68
      have hown' := hown.kept (grown_below hg) (.inr (by simp [Value.ownBlock]))
      refine wp_append_lies w _ _ 66 rfl bs 68 i0 _ 2 16 Try.underlying66 hi0 hz0 hz1 hz2 rfl (by omega) _ len vs (hd 0 (by kernel_rfl)) hown' ⟨b, 0, none⟩ 1 1 [.int .i64 x1, .int .i64 x2] e rfl
        (by simpa using World.news_of_block (cs := #[.int .i64 x1, .int .i64 x2]) hbk) (by simp [Value.oneCell']) (by decide) (by unfold maxLen; omega) (by omega) (by have := hg.size; omega) w.heap.size rfl ?_
      intro g c w' ho' hg' hat hlt
      exact ⟨_, rfl, g, c, rfl, ho', ⟨hg'.os.trans hg.os, hg'.tape.trans hg.tape, hg'.output.trans hg.output, Nat.le_trans hg.size hg'.size, fun j hj hne => (hg'.block j (by have := hg.size; omega) hne).trans (hg.block j hj)⟩⟩
  · intro a w hfr hm hrest
    obtain ⟨g, c, e, ho, h9⟩ := hm
    exact st_assign rfl e (hK a w g c hfr ho h9)
theorem list_of15 {vs : List Value} (h : vs.length = 15) : ∃ v0 v1 v2 v3 v4 v5 v6 v7 v8 v9 v10 v11 v12 v13 v14, vs = [v0, v1, v2, v3, v4, v5, v6, v7, v8, v9, v10, v11, v12, v13, v14] :=
  match vs, h with
  | [v0, v1, v2, v3, v4, v5, v6, v7, v8, v9, v10, v11, v12, v13, v14], _ => ⟨v0, v1, v2, v3, v4, v5, v6, v7, v8, v9, v10, v11, v12, v13, v14, rfl⟩
set_option maxRecDepth 100000 in
set_option maxHeartbeats 4000000 in
theorem region38L {K : Act → World → Prop} {x : Array Oper} (hx : regionAt 38 (Try.f21.body.getD .skip) = x) {t0 t1 t2 t3 t4 t5 t6 t7 t8 t9 t11 t12 t13 t16 t17 t18 t19 t20 t21 t22 t23 t24 t25 t26 t27 t28 t29 t30 t31 t32 t33 t34 t35 t36 t37 t38 t39 t40 t41 t42 t43 t44 t45 t46 t47 t48 t49 t50 t51 t52 t53 t54 t55 t56 t57 t58 t59 t60 t61 t62 t63 t64 t65 t66 t67 t68 t69 t70 t71 t72 t73 t74 t75 t76 t77 t78 t79 t80 t81 t82 t83 t84 t85 t86 t87 t88 t89 t90 t91 t92 t93 t94 t95 t96 t97 t98 t99 t100 t101 t102 t103 t104 t105 t106 t107 t108 t109 t110 t111 t112 t113 t114 t115 t116 t117 t118 t119 t120 t121 t122 t123 t124 t125 t126 t127 t128 t129 t130 t131 t132 t133 t134 t135 t136 t137 t138 t139 t140 t141 t142 t143 t144 t145 t146 t147 t148 t149 t150 t151 t152 t153 t154 t155 t156 t157 t158 t159 t160 t161 t162 t163 t164 t165 t166 t167 t168 t169 t170 t171 t172 t173 t174 t175 t176 t177 t178 t179 t180 t181 t182 t183 t184 t185 t186 t187 t188 t189 t190 t191 t192 t193 t194 t195 t196 t197 t198 t199 t200 t201 t202 t203 t204 t205 t206 t207 t208 t209 t210 t211 t212 t213 : Value} {t10 t14 t15 : Value} {w9 : World} {gb bs len cap eb eo en ec k : Nat} {vs : List Value} {x1 x2 : Int}
    (h10 : t10 = .slice (some ⟨gb, 0, none⟩) len cap) (h14 : t14 = .slice (some ⟨eb, eo, none⟩) en ec) (h15 : t15 = .int .i64 (k : Int)) (hk : k < en)
    (c1 : w9.cell? ⟨eb, eo + k * 4 + 1, none⟩ = some (.int .i64 x1)) (c2 : w9.cell? ⟨eb, eo + k * 4 + 2, none⟩ = some (.int .i64 x2))
    (hown : w9.ownsRow bs 68 2 (.slice (some ⟨gb, 0, none⟩) len cap) len vs) (hlen : len ≤ 1048576) (hbs : bs ≤ w9.heap.size)
    (hK : ∀ v0 v1 v2 v3 v4 v5 v6 v7 v8 v9 v10 v11 v12 v13 v14 w g c, w.ownsRow bs 68 2 (.slice (some ⟨g, 0, none⟩) (len + 1) c) (len + 1) (vs ++ [.int .i64 x1, .int .i64 x2]) → w9.grownBy w (some gb) → K ⟨#[t0, t1, t2, t3, t4, t5, t6, t7, t8, t9, (.slice (some ⟨g, 0, none⟩) (len + 1) c), t11, t12, t13, t14, t15, t16, t17, t18, t19, t20, t21, t22, t23, t24, t25, t26, t27, t28, t29, t30, t31, t32, t33, t34, t35, t36, t37, t38, t39, t40, t41, t42, t43, t44, t45, t46, t47, t48, t49, t50, t51, t52, t53, t54, t55, t56, t57, t58, t59, t60, t61, t62, t63, t64, t65, t66, t67, t68, t69, t70, t71, t72, t73, t74, t75, t76, t77, t78, t79, t80, t81, t82, t83, t84, t85, t86, t87, t88, t89, t90, t91, t92, t93, t94, t95, t96, t97, t98, t99, t100, t101, t102, t103, t104, t105, t106, t107, t108, t109, t110, t111, t112, t113, t114, t115, t116, t117, t118, t119, t120, t121, v0, v1, v2, v3, v4, v5, v6, v7, v8, v9, v10, v11, v12, v13, v14, t137, t138, t139, t140, t141, t142, t143, t144, t145, t146, t147, t148, t149, t150, t151, t152, t153, t154, t155, t156, t157, t158, t159, t160, t161, t162, t163, t164, t165, t166, t167, t168, t169, t170, t171, t172, t173, t174, t175, t176, t177, t178, t179, t180, t181, t182, t183, t184, t185, t186, t187, t188, t189, t190, t191, t192, t193, t194, t195, t196, t197, t198, t199, t200, t201, t202, t203, t204, t205, t206, t207, t208, t209, t210, t211, t212, t213], []⟩ w) :
    Code.wp Try.prog (.region 38 x true) (onlyN K) ⟨#[t0, t1, t2, t3, t4, t5, t6, t7, t8, t9, t10, t11, t12, t13, t14, t15, t16, t17, t18, t19, t20, t21, t22, t23, t24, t25, t26, t27, t28, t29, t30, t31, t32, t33, t34, t35, t36, t37, t38, t39, t40, t41, t42, t43, t44, t45, t46, t47, t48, t49, t50, t51, t52, t53, t54, t55, t56, t57, t58, t59, t60, t61, t62, t63, t64, t65, t66, t67, t68, t69, t70, t71, t72, t73, t74, t75, t76, t77, t78, t79, t80, t81, t82, t83, t84, t85, t86, t87, t88, t89, t90, t91, t92, t93, t94, t95, t96, t97, t98, t99, t100, t101, t102, t103, t104, t105, t106, t107, t108, t109, t110, t111, t112, t113, t114, t115, t116, t117, t118, t119, t120, t121, t122, t123, t124, t125, t126, t127, t128, t129, t130, t131, t132, t133, t134, t135, t136, t137, t138, t139, t140, t141, t142, t143, t144, t145, t146, t147, t148, t149, t150, t151, t152, t153, t154, t155, t156, t157, t158, t159, t160, t161, t162, t163, t164, t165, t166, t167, t168, t169, t170, t171, t172, t173, t174, t175, t176, t177, t178, t179, t180, t181, t182, t183, t184, t185, t186, t187, t188, t189, t190, t191, t192, t193, t194, t195, t196, t197, t198, t199, t200, t201, t202, t203, t204, t205, t206, t207, t208, t209, t210, t211, t212, t213], []⟩ w9 := by
  subst h10 h14 h15
  refine region38 hx rfl rfl rfl rfl hk c1 c2 hown hlen hbs ?_
  intro a w g c hfr ho hg
  obtain ⟨l, hl, rfl, -⟩ := hfr.list (show 122 + 15 ≤ 214 by decide)
  obtain ⟨v0, v1, v2, v3, v4, v5, v6, v7, v8, v9, v10, v11, v12, v13, v14, rfl⟩ := list_of15 hl
  exact hK v0 v1 v2 v3 v4 v5 v6 v7 v8 v9 v10 v11 v12 v13 v14 w g c ho hg
end Go.Proofs.Qxb6000864a
