import Derived.Test.Qxb6000864aParts
import Derived.Deep.RegionLaw
namespace Go.Proofs.Qxb6000864a
open Go.RowKit
/-- a post that lets no way out but the normal one. -/
def onlyNormal (K : Act → World → Prop) : Exit → Act → World → Prop
  | .normal, a, w => K a w
  | _, _, _ => False
theorem wp_onlyNormal {P : Program} {c : Code} {Q : Exit → Act → World → Prop} {a : Act} {w : World} (h : Code.wp P c (onlyNormal (fun a w => Q .normal a w)) a w) : Code.wp P c Q a w :=
  Code.wp_mono (fun e a w he => by cases e <;> first | exact he | exact he.elim) h
/-- the operations of the region of that number. -/
def regionOf (id : Nat) : Code → Array Oper
  | .region i ops _ => if i = id then ops else #[]
  | .seq a b => regionOf id a ++ regionOf id b
  | .cond _ a b => regionOf id a ++ regionOf id b
  | .block _ a => regionOf id a
  | .loop a => regionOf id a
  | _ => #[]
theorem Try.info36 : (Try.prog.info? 36).map (fun i => (i.zero, i.size, i.bytes)) = some (some (.agg #[.slice none 0 0, .bool false]), 2, 32) := by kernel_rfl
set_option maxRecDepth 100000 in
set_option maxHeartbeats 4000000 in
/-- 'part.Sessions[i] = append(part.Sessions[i], t)'. -/
theorem region42 {K : Act → World → Prop} {x : Array Oper} (hx : regionOf 42 (Try.f13.body.getD .skip) = x) {t0 t1 t2 t3 t4 t5 t6 t7 t8 t9 t10 t11 t12 t13 t14 t15 t18 t19 t21 t22 t23 t24 t25 t26 t27 t28 t29 t30 t31 t32 t33 t34 t35 t36 t37 t38 t39 t40 t41 t42 t43 t44 t45 t46 t47 t48 t49 t50 t51 t52 t53 t54 t55 t56 t57 t58 t59 t60 t61 t62 t63 t64 t65 t66 t67 t68 t69 t70 t71 t72 t73 t74 t75 t76 t77 t78 t79 t80 t81 t82 t83 t84 t85 t86 t87 t88 t89 t90 t91 t92 t93 t94 t95 t96 t97 t98 t99 t100 t101 t102 t103 t104 t105 t106 t107 t108 t109 t110 t111 t112 t113 t114 t115 t116 t117 t118 t119 t120 t121 t122 t123 t124 t125 t126 t127 t128 t129 t130 t131 t132 t133 t134 t135 t136 t137 t138 t139 t140 t141 t142 t143 t144 t145 t146 t147 t148 t149 t150 t151 t152 t153 t154 t155 t156 t157 t158 t159 t160 t161 t162 t163 t164 t165 t166 t167 t168 t169 : Value} (w : World) (B2 k n bt base len n3 ecap vc : Nat) (ea va : Option Addr) (com : Bool) (cells : List Value)
    (hcp : w.cell? ⟨B2 + 1, 0, none⟩ = some (.slice (some ⟨B2, 0, none⟩) n n)) (hvk : w.cell? ⟨B2, k, none⟩ = some (.slice va len vc)) (hfz : w.frozen? ⟨B2, k, none⟩ = false)
    (hd0 : w.cell? ⟨bt, 0, none⟩ = some (.slice ea n3 ecap)) (hd1 : w.cell? ⟨bt, 1, none⟩ = some (.bool com)) (hk : k < n)
    (hown : w.ownsRow base 36 2 (.slice va len vc) len cells) (hbase : base ≤ w.heap.size) (hlen : len ≤ 1048576)
    (NE : Hid ((Value.slice va len vc).ownBlock ≠ some B2 ∧ (Value.slice va len vc).ownBlock ≠ some (B2 + 1) ∧ (Value.slice va len vc).ownBlock ≠ some bt))
    (hK : Hid (∀ gg cap wf u151 u152 u153 u154 u155 u156 u157 u158 u159 u160 u161 u162 u163 u164 u165 u166, wf.ownsRow base 36 2 (.slice (some ⟨gg, 0, none⟩) (len + 1) cap) (len + 1) (cells ++ [.slice ea n3 ecap, .bool com]) →
      (w.alloc (.cells #[.slice ea n3 ecap, .bool com] 36)).grownBy wf (Value.slice va len vc).ownBlock → ((Value.slice va len vc).ownBlock = some gg ∨ gg = w.heap.size + 1) →
      K ⟨#[t0, t1, t2, t3, t4, t5, t6, t7, t8, t9, t10, t11, t12, t13, t14, t15, .pointer (some ⟨B2 + 1, 0, none⟩), .int .i64 (k : Int), t18, t19, .pointer (some ⟨bt, 0, none⟩), t21, t22, t23, t24, t25, t26, t27, t28, t29, t30, t31, t32, t33, t34, t35, t36, t37, t38, t39, t40, t41, t42, t43, t44, t45, t46, t47, t48, t49, t50, t51, t52, t53, t54, t55, t56, t57, t58, t59, t60, t61, t62, t63, t64, t65, t66, t67, t68, t69, t70, t71, t72, t73, t74, t75, t76, t77, t78, t79, t80, t81, t82, t83, t84, t85, t86, t87, t88, t89, t90, t91, t92, t93, t94, t95, t96, t97, t98, t99, t100, t101, t102, t103, t104, t105, t106, t107, t108, t109, t110, t111, t112, t113, t114, t115, t116, t117, t118, t119, t120, t121, t122, t123, t124, t125, t126, t127, t128, t129, t130, t131, t132, t133, t134, t135, t136, t137, t138, t139, t140, t141, t142, t143, t144, t145, t146, t147, t148, t149, t150, u151, u152, u153, u154, u155, u156, u157, u158, u159, u160, u161, u162, u163, u164, u165, u166, t167, t168, t169], []⟩ (wf.setCell ⟨B2, k, none⟩ (.slice (some ⟨gg, 0, none⟩) (len + 1) cap)))) :
    Code.wp Try.prog (Code.region 42 x true) (onlyNormal K) ⟨#[t0, t1, t2, t3, t4, t5, t6, t7, t8, t9, t10, t11, t12, t13, t14, t15, .pointer (some ⟨B2 + 1, 0, none⟩), .int .i64 (k : Int), t18, t19, .pointer (some ⟨bt, 0, none⟩), t21, t22, t23, t24, t25, t26, t27, t28, t29, t30, t31, t32, t33, t34, t35, t36, t37, t38, t39, t40, t41, t42, t43, t44, t45, t46, t47, t48, t49, t50, t51, t52, t53, t54, t55, t56, t57, t58, t59, t60, t61, t62, t63, t64, t65, t66, t67, t68, t69, t70, t71, t72, t73, t74, t75, t76, t77, t78, t79, t80, t81, t82, t83, t84, t85, t86, t87, t88, t89, t90, t91, t92, t93, t94, t95, t96, t97, t98, t99, t100, t101, t102, t103, t104, t105, t106, t107, t108, t109, t110, t111, t112, t113, t114, t115, t116, t117, t118, t119, t120, t121, t122, t123, t124, t125, t126, t127, t128, t129, t130, t131, t132, t133, t134, t135, t136, t137, t138, t139, t140, t141, t142, t143, t144, t145, t146, t147, t148, t149, t150, t151, t152, t153, t154, t155, t156, t157, t158, t159, t160, t161, t162, t163, t164, t165, t166, t167, t168, t169], []⟩ w := by
  obtain ⟨i0, hi0, hz0, hz1, hz2⟩ := info_parts Try.info36
  have l1 := cell_lt hcp
  have l2 := cell_lt hvk
  have l3 := cell_lt hd0
  simp only at l1 l2 l3
  have hfz' : ∀ o, (w.alloc o).frozen? ⟨B2, k, none⟩ = false := fun o => by
    rw [World.frozen?_of_block (w := w) (Below.heap_alloc w o _ l2)]; exact hfz
  have hk0 : (0 : Int) ≤ (k : Int) := Int.natCast_nonneg _
  have hk1 : (k : Int) < (n : Int) := by omega
  have HOW : Hid (w.ownsRow base 36 2 (.slice va len vc) len cells) := hown
  have HCP : Hid (w.cell? ⟨B2 + 1, 0, none⟩ = some (.slice (some ⟨B2, 0, none⟩) n n)) := hcp
  have HVK : Hid (w.cell? ⟨B2, k, none⟩ = some (.slice va len vc)) := hvk
  clear hown hfz
  simp [regionOf, Try.f13] at hx
  subst hx
  go_region_law ((refine step_append_lies _ (by rfl) _ _ _ (by rfl) base 36 i0 _ 2 32 Try.underlying32 hi0 hz0 hz1 hz2 rfl (by omega) (.slice va len vc) len cells (by rfl) ((HOW.out.alloc _).drew) ⟨w.heap.size, 0, none⟩ 1 1 [.slice ea n3 ecap, .bool com] (by rfl) (by rfl) (World.news_of_block (cs := #[.slice ea n3 ecap, .bool com]) (t := 36) (fr := (0, 0)) (heap_alloc_new w _)) (by simp [Value.oneCell']) (by omega) (by unfold maxLen; omega) (by omega) (by simp; omega) (w.heap.size + 1) (by simp) ?_; intro gg cap wf hown1 hgrow hat hltg; have q1 : wf.cell? ⟨B2 + 1, 0, none⟩ = some (.slice (some ⟨B2, 0, none⟩) n n) := (by rw [hgrow.cell_far _ (by simp; omega) (Ne.symm NE.out.2.1)]; simpa using cell_alloc HCP.out _); have q2 : wf.cell? ⟨B2, k, none⟩ = some (.slice va len vc) := (by rw [hgrow.cell_far _ (by simp; omega) (Ne.symm NE.out.1)]; simpa using cell_alloc HVK.out _); have q3 : wf.frozen? ⟨B2, k, none⟩ = false := (by rw [hgrow.frozen_far _ (by simp; omega) (Ne.symm NE.out.1)]; simpa using hfz' _)))
  all_goals exact hK.out _ _ _ _ _ _ _ _ _ _ _ _ _ _ _ _ _ _ _ hown1 ⟨hgrow.os, hgrow.tape, hgrow.output, hgrow.size, hgrow.block⟩ hat
end Go.Proofs.Qxb6000864a
